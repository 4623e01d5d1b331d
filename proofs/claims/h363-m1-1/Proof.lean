import JvmDerived
import JvmDerived.Pilot.@@N@@Statement
import JvmDerived.Pilot.@@N@@Code
set_option linter.unusedVariables false
set_option linter.unusedSimpArgs false
namespace Jvm.Pilot.@@N@@
open Jvm Jvm.ClassFile Sem Op Lib Jvm.Free Jvm.Stand Jvm.LawKit Jvm.RoadKit Bundle Jvm.Pilot.@@N@@.Jvm.D
section Own
variable {p : Program} {l : Launch} {e : Env} {R : Room} {s : State} {m : MethodId} {args : Array Value} {below : List Frame} {meth : Method} {c : Code} {T : State} {locs : List Loc} {cells slots : Nat} {Z : State} {a0 : Array Value} {h h' : Heap}
/-- from S the walk comes to the method's end, where Q holds of what is returned, the heap and the written places -/
def OEnds (p : Program) (e : Env) (below : List Frame) (s : State) (Q : Option Value → Heap → List Loc → Prop) (K N : Nat) (S : State) : Prop :=
  ∃ s₂ o, Steps p.tables e below S s₂ ∧ s₂.status = .running ∧ Ended s₂ below o ∧ ∃ v L, o = .returned v ∧ Q v s₂.heap L ∧ FrameEnd s o s₂ L K N
variable {Q Q' : Option Value → Heap → List Loc → Prop} {K N : Nat} {S S' : State}
theorem own_by (st : ∀ t, Steps p.tables e below S' t → Steps p.tables e below S t) (k : OEnds p e below s Q K N S') : OEnds p e below s Q K N S := by
  obtain ⟨a, o, h1, h2⟩ := k
  exact ⟨a, o, st _ h1, h2⟩
theorem own_tr (st : Steps p.tables e below S S') (k : OEnds p e below s Q K N S') : OEnds p e below s Q K N S := by
  obtain ⟨a, o, h1, h2⟩ := k
  exact ⟨a, o, st.trans h1, h2⟩
theorem own_mono (f : ∀ v h L, Q' v h L → Q v h L) (k : OEnds p e below s Q' K N S) : OEnds p e below s Q K N S := by
  obtain ⟨a, o, h1, h2, h3, v, L, h4, h5, h6⟩ := k
  exact ⟨a, o, h1, h2, h3, v, L, h4, f _ _ _ h5, h6⟩
theorem own_fin (X : Stand p l e R s m args below meth c T locs cells slots) (hlk : meth.locks = false) {v : Option Value} (hv : meth.sig.returnType = none → v = none) (hQ : Q v T.heap locs) (hK : cells ≤ K) (hN : slots ≤ N)
    (hst : ∀ fs, (∀ (f : JFrame) (acts : List Action), f.method = m → f.locked = none → f.entered = [] → (doReturn e (T.setTop f) acts v).1 = T.setFrames fs) → Steps p.tables e below S (T.setFrames fs)) : OEnds p e below s Q K N S := by
  obtain ⟨fs, hr, hrun, hended, hW, hsame⟩ := X.leave hv hlk
  exact ⟨_, _, hst fs hr, hrun, hended, _, _, rfl, hQ, ⟨_, rfl⟩, hW, hsame.mono hK hN⟩
theorem own_retI (X : Stand p l e R s m args below meth c T locs cells slots) (hx : p.tables.exec = Jvm.exec) (hlk : meth.locks = false) {pc : Nat} {Ls : Array Slot} {z : Int32} {rest : List Value} (hret : meth.sig.returnType = some .int) (hd : decode c.code pc = .ok (.ireturn, 1))
    (hQ : Q (some (.int z)) T.heap locs) (hK : cells ≤ K) (hN : slots ≤ N) : OEnds p e below s Q K N (T.setTop (mkF m pc Ls (.int z :: rest))) :=
  own_fin X hlk (fun q => by rw [hret] at q; cases q) hQ hK hN fun _ hr => retOut X hx hret rfl (Or.inl ⟨rfl, Or.inl rfl, _, rfl⟩) hd hr
theorem own_retN (X : Stand p l e R s m args below meth c T locs cells slots) (hx : p.tables.exec = Jvm.exec) (hlk : meth.locks = false) (t : FieldType) (ht : t = .boolean ∨ t = .byte ∨ t = .char ∨ t = .short) {pc : Nat} {Ls : Array Slot} {z : Int32} {rest : List Value} (hret : meth.sig.returnType = some t) (hd : decode c.code pc = .ok (.ireturn, 1))
    (hQ : Q (some (.int (nar t z))) T.heap locs) (hK : cells ≤ K) (hN : slots ≤ N) : OEnds p e below s Q K N (T.setTop (mkF m pc Ls (.int z :: rest))) :=
  own_fin X hlk (fun q => by rw [hret] at q; cases q) hQ hK hN fun _ hr => retN X hx hret ht hd hr
theorem own_retJ (X : Stand p l e R s m args below meth c T locs cells slots) (hx : p.tables.exec = Jvm.exec) (hlk : meth.locks = false) {pc : Nat} {Ls : Array Slot} {z : Int64} {rest : List Value} (hret : meth.sig.returnType = some .long) (hd : decode c.code pc = .ok (.lreturn, 1))
    (hQ : Q (some (.long z)) T.heap locs) (hK : cells ≤ K) (hN : slots ≤ N) : OEnds p e below s Q K N (T.setTop (mkF m pc Ls (.long z :: rest))) :=
  own_fin X hlk (fun q => by rw [hret] at q; cases q) hQ hK hN fun _ hr => retOut X hx hret rfl (Or.inr (Or.inl ⟨rfl, rfl, _, rfl⟩)) hd hr
theorem own_retA (X : Stand p l e R s m args below meth c T locs cells slots) (hx : p.tables.exec = Jvm.exec) (hlk : meth.locks = false) {t : FieldType} (ht : t.isReference = true) {pc : Nat} {Ls : Array Slot} {a : Addr} {rest : List Value} (hret : meth.sig.returnType = some t) (hn : narrow t (.ref a) = .ref a) (hd : decode c.code pc = .ok (.areturn, 1))
    (hQ : Q (some (.ref a)) T.heap locs) (hK : cells ≤ K) (hN : slots ≤ N) : OEnds p e below s Q K N (T.setTop (mkF m pc Ls (.ref a :: rest))) :=
  own_fin X hlk (fun q => by rw [hret] at q; cases q) hQ hK hN fun _ hr => retOut X hx hret hn (Or.inr (Or.inr (Or.inr (Or.inr ⟨rfl, ht, rfl⟩)))) hd hr
theorem own_retV (X : Stand p l e R s m args below meth c T locs cells slots) (hx : p.tables.exec = Jvm.exec) (hlk : meth.locks = false) {pc : Nat} {Ls : Array Slot} (hret : meth.sig.returnType = none) (hd : decode c.code pc = .ok (.return_, 1))
    (hQ : Q none T.heap locs) (hK : cells ≤ K) (hN : slots ≤ N) : OEnds p e below s Q K N (T.setTop (mkF m pc Ls [])) :=
  own_fin X hlk (fun _ => rfl) hQ hK hN fun _ hr => X.returnOut hx hret hd hr
/-- what a plain method leaves: its value, nothing written, the heap as it was -/
def QP (r : Value) (h0 : Heap) (v : Option Value) (h : Heap) (L : List Loc) : Prop := v = some r ∧ L = [] ∧ h = h0
theorem own_eq {r r' : Value} {h0 : Heap} (q : r = r') (k : OEnds p e below s (QP r' h0) K N S) : OEnds p e below s (QP r h0) K N S := by subst q; exact k
theorem own_lrem {g : JFrame} {target : State} (X : Stand p l e R s m args below meth c T locs cells slots) (hx : p.tables.exec = Jvm.exec) (hg : g.method = m) {x y : Int64} {rest : List Value} (hd : decode c.code g.pc = .ok (.lrem, 1)) (hs : g.stack = .long y :: .long x :: rest) (hy : y ≠ 0)
    (hr : Steps p.tables e below (T.setTop { g with pc := g.pc + 1, stack := .long (x % y) :: rest }) target) : Steps p.tables e below (T.setTop g) target := by
  have q : x - x / y * y = x % y := lrem_mod x y
  exact XS.lrem X.here hx hg hd hs hy (by rw [q]; exact hr)
/-- a call of a plain static method by its contract -/
theorem own_callP (X : Stand p l e R s m args below meth c T locs cells slots) (hx : p.tables.exec = Jvm.exec) (hZ : Z.Warmed39 s.vm) {own : String} {index : Nat} {y : MethodName} {bytes : ByteArray} {maxL : Nat} {ret : Option FieldType} {fr lo : Nat} {r : Value} {argsL rest : List Value} {g : JFrame}
    (hown : s.vm.findClass own = some m.cls) (w1 : (Cond.methodLink own index y).before a0 Z = true) (w2 : (Cond.static y).before a0 Z = true) (w3 : (Cond.initialized y.cls).before a0 Z = true) (w4 : (Cond.code y bytes maxL ret).before a0 Z = true)
    (hy : y.cls ≠ "java/lang/invoke/MethodHandle" ∧ y.cls ≠ "java/lang/invoke/VarHandle")
    (hM : MetFree l y (head1 [Cond.code y bytes maxL ret] ({ frames := fr, cells := 0, slots := 0, locals := lo } : Room)) (fun a U => a = argsL.toArray ∧ Z.Warmed39 U.vm ∧ U.heap = h) (fun _ _ _ _ _ => True) (fun _ U o U' => ∃ v L, o = .returned v ∧ QP r h v U'.heap L ∧ FrameEnd U o U' L 0 0))
    (eT : T.heap = h) (hg : g.method = m) (hsize : g.locals.size = c.maxLocals) (hlen : ∀ sig, parseMethodDescriptor y.desc = some sig → argsL.length = sig.parameters.length) (hstack : g.stack = argsL.reverse ++ rest) {W : Nat} (hW : 2 * g.monitorRoom + (rest.map fun v => v.category).sum ≤ W)
    (hd : decode c.code g.pc = .ok (.invokestatic index, 3)) (hf : fr + 1 ≤ R.frames) (hl : W + (maxL + 11) + lo ≤ R.locals) (hc : cells ≤ R.cells) (hs : slots ≤ R.slots) :
    ∃ T', Stand p l e R s m args below meth c T' locs cells slots ∧ T'.heap = h ∧ ∀ target, Steps p.tables e below (T'.setTop { g with pc := g.pc + 3, stack := r :: rest }) target → Steps p.tables e below (T.setTop g) target := by
  obtain ⟨_, _, ⟨T1, L1, k1, n1⟩, -, X1, ⟨Lc, hQ, l1, y1, z1⟩, st⟩ := Jvm.LawKit.callS X hx (y := y) hown (mvT hZ w1) (mvT hZ w2) (mvT hZ w3) (mvT hZ w4) hy (backOf (rm := ({ frames := fr, cells := 0, slots := 0, locals := lo } : Room)) (W := W) hM hZ w4 w3 hf hl) (g := g) hg hsize (argsL := argsL) (rest := rest) hlen hstack hW hd (fun _ _ => ⟨rfl, eT, hc, hs⟩)
  dsimp only [Pt.U, Pt.locs, Pt.cells, Pt.slots] at X1 l1 y1 z1 st hQ
  subst l1 y1 z1
  obtain ⟨rfl, rfl, e1⟩ := hQ
  rw [List.append_nil] at X1
  exact ⟨T1, X1, e1, st⟩
end Own
section Own2
variable {p : Program} {l : Launch} {e : Env} {R : Room} {s : State} {m : MethodId} {args : Array Value} {below : List Frame} {meth : Method} {c : Code} {T : State} {locs : List Loc} {cells slots : Nat} {Z : State} {a0 : Array Value} {h h' : Heap}
  {a b : Addr} {C : String} {sch : List (String × String)} {vs : List Value} {ws : List Addr} {sl : Nat} {v : Value}
/-- the object at a is exactly a C, and its fields (in the order of sch) hold vs -/
def Obj (Z : State) (h : Heap) (a : Addr) (C : String) (sch : List (String × String)) (vs : List Value) : Prop :=
  Exa Z h a C ∧ ∀ (i : Nat) (n d : String) (v : Value), sch[i]? = some (n, d) → vs[i]? = some v → Fld Z h a C n d v
def SchOk (Z : State) (a0 : Array Value) (C : String) (sch : List (String × String)) : Prop :=
  (∀ q ∈ sch, Laid Z a0 C C q.1 q.2) ∧ (∀ q ∈ sch, (parseFieldDescriptor q.2).isSome = true) ∧ (sch.map (·.1)).Nodup
theorem Obj.exa (O : Obj Z h a C sch vs) : Exa Z h a C := O.1
theorem Obj.lt (O : Obj Z h a C sch vs) : a < h.size := O.1.lt
theorem Obj.fld (O : Obj Z h a C sch vs) (i : Nat) {n d : String} {v : Value} (h1 : sch[i]? = some (n, d)) (h2 : vs[i]? = some v) : Fld Z h a C n d v := O.2 i n d v h1 h2
theorem Obj.ext (O : Obj Z h a C sch vs) (E : Ext h h') : Obj Z h' a C sch vs := ⟨O.1.ext E, fun i n d v h1 h2 => (O.2 i n d v h1 h2).ext E⟩
theorem Obj.other (O : Obj Z h b C sch vs) (W : Wr h h' a sl v) (q : b ≠ a) : Obj Z h' b C sch vs := ⟨O.1.wr W, fun i n d v h1 h2 => (O.2 i n d v h1 h2).other W (Or.inl q)⟩
theorem Obj.keep (O : Obj Z h a C sch vs) (K : Keep h h' ws) (q : a ∉ ws) : Obj Z h' a C sch vs := ⟨O.1.keep K, fun i n d v h1 h2 => (O.2 i n d v h1 h2).keep K q⟩
theorem sch_ne (S : SchOk Z a0 C sch) {i j : Nat} {n d n' d' : String} (hi : sch[i]? = some (n, d)) (hj : sch[j]? = some (n', d')) (ne : i ≠ j) : n ≠ n' := by
  intro q
  have h3 := S.2.2
  rw [List.nodup_iff_pairwise_ne, List.pairwise_iff_getElem] at h3
  have e1 : (sch.map (·.1))[i]? = some n := by rw [List.getElem?_map, hi]; rfl
  have e2 : (sch.map (·.1))[j]? = some n' := by rw [List.getElem?_map, hj]; rfl
  obtain ⟨l1, f1⟩ := List.getElem?_eq_some_iff.mp e1
  obtain ⟨l2, f2⟩ := List.getElem?_eq_some_iff.mp e2
  rcases Nat.lt_or_gt_of_ne ne with k | k
  · exact h3 i j l1 l2 k (by rw [f1, f2, q])
  · exact h3 j i l2 l1 k (by rw [f1, f2, q])
theorem sch_ty (S : SchOk Z a0 C sch) {i : Nat} {n d : String} (hi : sch[i]? = some (n, d)) : ∃ t, parseFieldDescriptor d = some t :=
  Option.isSome_iff_exists.mp (S.2.1 _ (List.mem_of_getElem? hi))
theorem Obj.set (O : Obj Z h a C sch vs) (S : SchOk Z a0 C sch) {n d : String} (W : Wr h h' a (Jvm.RoadKit.slotOf Z C n d) v) (i : Nat) (hi : sch[i]? = some (n, d)) (hl : i < vs.length) : Obj Z h' a C sch (vs.set i v) := by
  refine ⟨O.1.wr W, fun j n' d' w h1 h2 => ?_⟩
  by_cases q : j = i
  · subst q
    cases hi.symm.trans h1
    rw [List.getElem?_set_self hl] at h2
    cases h2
    exact Fld.same W (O.2 j n d _ hi (List.getElem?_eq_getElem hl))
  · rw [List.getElem?_set_ne (Ne.symm q)] at h2
    obtain ⟨t, ht⟩ := sch_ty S hi
    obtain ⟨t', ht'⟩ := sch_ty S h1
    have L1 : Laid Z a0 C C n' d' := S.1 (n', d') (List.mem_of_getElem? h1)
    have L2 : Laid Z a0 C C n d := S.1 (n, d) (List.mem_of_getElem? hi)
    exact Fld.other W (O.2 j n' d' w h1 h2) (Or.inr (slot_ne L1 L2 (sch_ne S h1 hi q) ht' ht))
theorem Obj.new (S : SchOk Z a0 C sch) (A : Exa Z h a C) (D : ∀ {O nm d : String} {ty : FieldType}, Laid Z a0 C O nm d → parseFieldDescriptor d = some ty → Fld Z h a O nm d (defaultValue ty)) (tys : List FieldType) (ht : sch.map (fun q => parseFieldDescriptor q.2) = tys.map some) : Obj Z h a C sch (tys.map defaultValue) := by
  refine ⟨A, fun i n d v h1 h2 => ?_⟩
  rw [List.getElem?_map] at h2
  have e1 : (sch.map (fun q => parseFieldDescriptor q.2))[i]? = some (parseFieldDescriptor d) := by rw [List.getElem?_map, h1]; rfl
  rw [ht, List.getElem?_map] at e1
  cases hq : tys[i]? with
  | none => rw [hq] at e1; cases e1
  | some t =>
    rw [hq] at e1 h2
    cases h2
    exact D (S.1 _ (List.mem_of_getElem? h1)) (Option.some.inj e1).symm
/-- an array of n places whose i-th holds f i -/
def FA (Z : State) (h : Heap) (a : Addr) (ty : FieldType) (n : Nat) (f : Nat → Value) : Prop :=
  ∃ c : Cell, Arr Z h a c ty ∧ c.slots.size = n ∧ n < 2 ^ 31 ∧ ∀ i, i < n → c.slots[i]? = some (f i)
variable {ty ty' : FieldType} {n n' : Nat} {f f' : Nat → Value}
theorem FA.lt (F : FA Z h a ty n f) : a < h.size := by obtain ⟨c, A, -⟩ := F; exact A.lt
theorem FA.ext (F : FA Z h a ty n f) (E : Ext h h') : FA Z h' a ty n f := by obtain ⟨c, A, r⟩ := F; exact ⟨c, A.ext E, r⟩
theorem FA.other (F : FA Z h b ty n f) (W : Wr h h' a sl v) (q : b ≠ a) : FA Z h' b ty n f := by obtain ⟨c, A, r⟩ := F; exact ⟨c, A.other W q, r⟩
theorem FA.keep (F : FA Z h a ty n f) (K : Keep h h' ws) (q : a ∉ ws) : FA Z h' a ty n f := by obtain ⟨c, A, r⟩ := F; exact ⟨c, ⟨K.2.1 _ _ A.1 q, A.2⟩, r⟩
theorem FA.congr (F : FA Z h a ty n f) (q : ∀ i, i < n → f i = f' i) : FA Z h a ty n f' := by
  obtain ⟨c, A, r1, r2, r3⟩ := F
  exact ⟨c, A, r1, r2, fun i hi => by rw [r3 i hi, q i hi]⟩
theorem FA.new {k : ClassId} {z : Int32} (A : Arr Z h a (newA k ty z) ty) (q : ¬ z < 0) (hn : z.toNatClampNeg = n) {d : Value} (hd : defaultValue ty = d) : FA Z h a ty n (fun _ => d) := by
  subst hn hd
  refine ⟨_, A, sz_new _ _ _, (back32 q).2, fun i hi => ?_⟩
  show (Array.replicate z.toNatClampNeg (defaultValue ty))[i]? = _
  simp [hi]
theorem FA.set (F : FA Z h a ty n f) {k : Nat} (W : Wr h h' a k v) : FA Z h' a ty n (fun i => if i = k then v else f i) := by
  obtain ⟨c, A, r1, r2, r3⟩ := F
  refine ⟨c.setSlot k v, A.same W, by rw [sz_set]; exact r1, r2, fun i hi => ?_⟩
  show (c.slots.setIfInBounds k v)[i]? = _
  by_cases q : i = k
  · subst q; simp [r1, hi]
  · rw [Array.getElem?_setIfInBounds_ne (Ne.symm q), r3 i hi]; simp [q]
theorem FA.ne_ty (F : FA Z h a ty n f) (G : FA Z h b ty' n' f') (q : ty ≠ ty') : a ≠ b := fun e => by
  subst e
  obtain ⟨c, A, -⟩ := F
  obtain ⟨c', A', -⟩ := G
  cases A.1.symm.trans A'.1
  obtain ⟨-, k1, j1, comp, j2⟩ := A.2.1
  obtain ⟨-, k2, i1, comp', i2⟩ := A'.2.1
  cases j1.symm.trans i1
  rw [j2] at i2
  cases i2
  exact q rfl
theorem Obj.ne_fa {kk : Nat} (O : Obj Z h a C sch vs) (wi : (Cond.instantiable C kk).before a0 Z = true) (F : FA Z h b ty n f) : a ≠ b := by
  obtain ⟨c, A, -⟩ := F
  exact ne_arr O.1 wi A
theorem nat_at {j : Int32} {k : Nat} (hk : j.toInt = (k : Int)) : j.toNatClampNeg = k ∧ ¬ j < 0 := by
  refine ⟨by show j.toInt.toNat = k; rw [hk]; rfl, fun q => ?_⟩
  rw [Int32.lt_iff_toInt_lt, hk] at q
  have : (0 : Int32).toInt = 0 := by decide
  omega
theorem inb {j : Int32} {k : Nat} {c : Cell} (hk : j.toInt = (k : Int)) (hn : c.slots.size = n) (hl : k < n) : ¬ (j < 0 ∨ c.slots.size ≤ j.toNatClampNeg) := by
  obtain ⟨h1, h2⟩ := nat_at hk
  rw [h1, hn]
  rintro (q | q)
  · exact h2 q
  · omega
theorem own_laload (X : Stand p l e R s m args below meth c T locs cells slots) (hx : p.tables.exec = Jvm.exec) (hZ : Z.Warmed39 s.vm) (eT : T.heap = h) (F : FA Z h a .long n f) {j : Int32} (k : Nat) (hk : j.toInt = (k : Int)) (hl : k < n) (hv : f k = v)
    {g : JFrame} (hg : g.method = m) {rest : List Value} (hs : g.stack = .int j :: .ref a :: rest) (hd : decode c.code g.pc = .ok (.laload, 1)) : ∀ target, Steps p.tables e below (T.setTop { g with pc := g.pc + 1, stack := v :: rest }) target → Steps p.tables e below (T.setTop g) target := by
  obtain ⟨cl, A, r1, r2, r3⟩ := F
  exact fun t k' => X.laload hx (by rw [eT]; exact A.1) (State.isArrayOf_alike hZ.alike A.2.1) A.2.2 (inb hk r1 hl) (by rw [(nat_at hk).1, r3 k hl, hv]) hg hs hd t k'
theorem own_iaload (X : Stand p l e R s m args below meth c T locs cells slots) (hx : p.tables.exec = Jvm.exec) (hZ : Z.Warmed39 s.vm) (eT : T.heap = h) (F : FA Z h a .int n f) {j : Int32} (k : Nat) (hk : j.toInt = (k : Int)) (hl : k < n) (hv : f k = v)
    {g : JFrame} (hg : g.method = m) {rest : List Value} (hs : g.stack = .int j :: .ref a :: rest) (hd : decode c.code g.pc = .ok (.iaload, 1)) : ∀ target, Steps p.tables e below (T.setTop { g with pc := g.pc + 1, stack := v :: rest }) target → Steps p.tables e below (T.setTop g) target := by
  obtain ⟨cl, A, r1, r2, r3⟩ := F
  exact fun t k' => X.iaload hx (by rw [eT]; exact A.1) (State.isArrayOf_alike hZ.alike A.2.1) A.2.2 (inb hk r1 hl) (by rw [(nat_at hk).1, r3 k hl, hv]) hg hs hd t k'
theorem own_baload (X : Stand p l e R s m args below meth c T locs cells slots) (hx : p.tables.exec = Jvm.exec) (hZ : Z.Warmed39 s.vm) (eT : T.heap = h) (F : FA Z h a .byte n f) {j : Int32} (k : Nat) (hk : j.toInt = (k : Int)) (hl : k < n) (hv : f k = v)
    {g : JFrame} (hg : g.method = m) {rest : List Value} (hs : g.stack = .int j :: .ref a :: rest) (hd : decode c.code g.pc = .ok (.baload, 1)) : ∀ target, Steps p.tables e below (T.setTop { g with pc := g.pc + 1, stack := v :: rest }) target → Steps p.tables e below (T.setTop g) target := by
  obtain ⟨cl, A, r1, r2, r3⟩ := F
  exact fun t k' => X.baloadBytes hx (by rw [eT]; exact A.1) (State.isArrayOf_alike hZ.alike A.2.1) A.2.2 (inb hk r1 hl) (by rw [(nat_at hk).1, r3 k hl, hv]) hg hs hd t k'
theorem own_aaload (X : Stand p l e R s m args below meth c T locs cells slots) (hx : p.tables.exec = Jvm.exec) (hZ : Z.Warmed39 s.vm) (eT : T.heap = h) (F : FA Z h a ty n f) (hty : ty.isReference = true) {j : Int32} (k : Nat) (hk : j.toInt = (k : Int)) (hl : k < n) (hv : f k = v)
    {g : JFrame} (hg : g.method = m) {rest : List Value} (hs : g.stack = .int j :: .ref a :: rest) (hd : decode c.code g.pc = .ok (.aaload, 1)) : ∀ target, Steps p.tables e below (T.setTop { g with pc := g.pc + 1, stack := v :: rest }) target → Steps p.tables e below (T.setTop g) target := by
  obtain ⟨cl, A, r1, r2, r3⟩ := F
  exact fun t k' => X.aaload hx (by rw [eT]; exact A.1) (State.isArrayOf_alike hZ.alike A.2.1) hty A.2.2 (inb hk r1 hl) (by rw [(nat_at hk).1, r3 k hl, hv]) hg hs hd t k'
theorem own_len (X : Stand p l e R s m args below meth c T locs cells slots) (hx : p.tables.exec = Jvm.exec) (hZ : Z.Warmed39 s.vm) (eT : T.heap = h) (F : FA Z h a ty n f) {z : Int32} (hz : n.toInt32 = z)
    {g : JFrame} (hg : g.method = m) {rest : List Value} (hs : g.stack = .ref a :: rest) (hd : decode c.code g.pc = .ok (.arraylength, 1)) : ∀ target, Steps p.tables e below (T.setTop { g with pc := g.pc + 1, stack := .int z :: rest }) target → Steps p.tables e below (T.setTop g) target := by
  obtain ⟨cl, A, r1, r2, r3⟩ := F
  refine fun t k' => X.arraylength hx (by rw [eT]; exact A.1) (State.isArrayOf_alike hZ.alike A.2.1) hg hs hd t ?_
  rw [r1, hz]; exact k'
theorem own_iastore (X : Stand p l e R s m args below meth c T locs cells slots) (hx : p.tables.exec = Jvm.exec) (hZ : Z.Warmed39 s.vm) (eT : T.heap = h) (F : FA Z h a .int n f) {j x : Int32} (k : Nat) (hk : j.toInt = (k : Int)) (hl : k < n)
    {g : JFrame} (hg : g.method = m) {rest : List Value} (hs : g.stack = .int x :: .int j :: .ref a :: rest) (hd : decode c.code g.pc = .ok (.iastore, 1)) :
    ∃ T' h', Stand p l e R s m args below meth c T' (locs ++ [⟨a, k⟩]) cells slots ∧ T'.heap = h' ∧ Wr h h' a k (.int x) ∧ ∀ target, Steps p.tables e below (T'.setTop { g with pc := g.pc + 1, stack := rest }) target → Steps p.tables e below (T.setTop g) target := by
  obtain ⟨cl, A, r1, r2, r3⟩ := F
  have q := stI X hx hZ eT A (x := x) (inb hk r1 hl) hg hs hd
  rw [(nat_at hk).1] at q
  exact q
theorem own_lastore (X : Stand p l e R s m args below meth c T locs cells slots) (hx : p.tables.exec = Jvm.exec) (hZ : Z.Warmed39 s.vm) (eT : T.heap = h) (F : FA Z h a .long n f) {j : Int32} {x : Int64} (k : Nat) (hk : j.toInt = (k : Int)) (hl : k < n)
    {g : JFrame} (hg : g.method = m) {rest : List Value} (hs : g.stack = .long x :: .int j :: .ref a :: rest) (hd : decode c.code g.pc = .ok (.lastore, 1)) :
    ∃ T' h', Stand p l e R s m args below meth c T' (locs ++ [⟨a, k⟩]) cells slots ∧ T'.heap = h' ∧ Wr h h' a k (.long x) ∧ ∀ target, Steps p.tables e below (T'.setTop { g with pc := g.pc + 1, stack := rest }) target → Steps p.tables e below (T.setTop g) target := by
  obtain ⟨cl, A, r1, r2, r3⟩ := F
  have q := stJ X hx hZ eT A (x := x) (inb hk r1 hl) hg hs hd
  rw [(nat_at hk).1] at q
  exact q
theorem own_bastore (X : Stand p l e R s m args below meth c T locs cells slots) (hx : p.tables.exec = Jvm.exec) (hZ : Z.Warmed39 s.vm) (eT : T.heap = h) (F : FA Z h a .byte n f) {j x : Int32} (k : Nat) (hk : j.toInt = (k : Int)) (hl : k < n)
    {g : JFrame} (hg : g.method = m) {rest : List Value} (hs : g.stack = .int x :: .int j :: .ref a :: rest) (hd : decode c.code g.pc = .ok (.bastore, 1)) :
    ∃ T' h', Stand p l e R s m args below meth c T' (locs ++ [⟨a, k⟩]) cells slots ∧ T'.heap = h' ∧ Wr h h' a k (.int (nar .byte x)) ∧ ∀ target, Steps p.tables e below (T'.setTop { g with pc := g.pc + 1, stack := rest }) target → Steps p.tables e below (T.setTop g) target := by
  obtain ⟨cl, A, r1, r2, r3⟩ := F
  have q := stB X hx hZ eT A (x := x) (inb hk r1 hl) hg hs hd
  rw [(nat_at hk).1] at q
  exact q
/-- the typed updates -/
def updL (f : Nat → Int64) (k : Nat) (x : Int64) : Nat → Int64 := fun i => if i = k then x else f i
def updI (f : Nat → Int32) (k : Nat) (x : Int32) : Nat → Int32 := fun i => if i = k then x else f i
theorem FA.setL {f : Nat → Int64} {x : Int64} (F : FA Z h a ty n (fun i => .long (f i))) {k : Nat} (W : Wr h h' a k (.long x)) : FA Z h' a ty n (fun i => .long (updL f k x i)) :=
  (F.set W).congr fun i _ => by by_cases q : i = k <;> simp [updL, q]
theorem FA.setI {f : Nat → Int32} {x : Int32} (F : FA Z h a ty n (fun i => .int (f i))) {k : Nat} (W : Wr h h' a k (.int x)) : FA Z h' a ty n (fun i => .int (updI f k x i)) :=
  (F.set W).congr fun i _ => by by_cases q : i = k <;> simp [updI, q]
/-- a call by a contract, whatever it writes or makes: static, virtual, a constructor's -/
theorem own_callS (X : Stand p l e R s m args below meth c T locs cells slots) (hx : p.tables.exec = Jvm.exec) (hZ : Z.Warmed39 s.vm) {own : String} {index : Nat} {y : MethodName} {bytes : ByteArray} {maxL : Nat} {ret : Option FieldType} {rm : Room} {Q : Option Value → Heap → List Loc → Prop} {argsL rest : List Value} {g : JFrame}
    (hown : s.vm.findClass own = some m.cls) (w1 : (Cond.methodLink own index y).before a0 Z = true) (w2 : (Cond.static y).before a0 Z = true) (w3 : (Cond.initialized y.cls).before a0 Z = true) (w4 : (Cond.code y bytes maxL ret).before a0 Z = true)
    (hy : y.cls ≠ "java/lang/invoke/MethodHandle" ∧ y.cls ≠ "java/lang/invoke/VarHandle")
    (hM : MetFree l y (head1 [Cond.code y bytes maxL ret] rm) (fun a U => a = argsL.toArray ∧ Z.Warmed39 U.vm ∧ U.heap = h) (fun _ _ _ _ _ => True) (fun _ U o U' => ∃ v L, o = .returned v ∧ Q v U'.heap L ∧ FrameEnd U o U' L rm.cells rm.slots))
    (eT : T.heap = h) (hg : g.method = m) (hsize : g.locals.size = c.maxLocals) (hlen : ∀ sig, parseMethodDescriptor y.desc = some sig → argsL.length = sig.parameters.length) (hstack : g.stack = argsL.reverse ++ rest) {W : Nat} (hW : 2 * g.monitorRoom + (rest.map fun v => v.category).sum ≤ W)
    (hd : decode c.code g.pc = .ok (.invokestatic index, 3)) (hf : rm.frames + 1 ≤ R.frames) (hl : W + (maxL + 11) + rm.locals ≤ R.locals) (hc : cells + rm.cells ≤ R.cells) (hs : slots + rm.slots ≤ R.slots) :
    ∃ v T' L h', Stand p l e R s m args below meth c T' (locs ++ L) (cells + rm.cells) (slots + rm.slots) ∧ T'.heap = h' ∧ Q v h' L ∧ Steps p.tables e below (T.setTop g) (T'.setTop { g with pc := g.pc + 3, stack := v.toList ++ rest }) := by
  obtain ⟨v, _, ⟨T1, L1, k1, n1⟩, -, X1, ⟨Lc, hQ, l1, y1, z1⟩, st⟩ := Jvm.LawKit.callS X hx (y := y) hown (mvT hZ w1) (mvT hZ w2) (mvT hZ w3) (mvT hZ w4) hy (backOf (rm := rm) (W := W) hM hZ w4 w3 hf hl) (g := g) hg hsize (argsL := argsL) (rest := rest) hlen hstack hW hd (fun _ _ => ⟨rfl, eT, hc, hs⟩)
  dsimp only [Pt.U, Pt.locs, Pt.cells, Pt.slots] at X1 l1 y1 z1 st hQ
  subst l1 y1 z1
  exact ⟨v, T1, Lc, _, X1, rfl, hQ, st _ (Steps.refl _)⟩
theorem own_callV (X : Stand p l e R s m args below meth c T locs cells slots) (hx : p.tables.exec = Jvm.exec) (hZ : Z.Warmed39 s.vm) {own : String} {index : Nat} {y : MethodName} {bytes : ByteArray} {maxL : Nat} {ret : Option FieldType} {rm : Room} {Q : Option Value → Heap → List Loc → Prop} {argsL rest : List Value} {g : JFrame}
    (hown : s.vm.findClass own = some m.cls) (w1 : (Cond.methodLink own index y).before a0 Z = true) (w2 : (Cond.declares y).before a0 Z = true) (w3 : (Cond.selects C y y).before a0 Z = true) (w4 : (Cond.instanceMethod y).before a0 Z = true) (w5 : (Cond.code y bytes maxL ret).before a0 Z = true) (w6 : (Cond.initialized y.cls).before a0 Z = true)
    (hy : y.cls ≠ "java/lang/invoke/MethodHandle" ∧ y.cls ≠ "java/lang/invoke/VarHandle") (E : Exa Z h b C)
    (hM : MetFree l y (head1 [Cond.code y bytes maxL ret] rm) (fun a U => a = (.ref b :: argsL).toArray ∧ Z.Warmed39 U.vm ∧ U.heap = h) (fun _ _ _ _ _ => True) (fun _ U o U' => ∃ v L, o = .returned v ∧ Q v U'.heap L ∧ FrameEnd U o U' L rm.cells rm.slots))
    (eT : T.heap = h) (hg : g.method = m) (hsize : g.locals.size = c.maxLocals) (hlen : ∀ sig, parseMethodDescriptor y.desc = some sig → argsL.length = sig.parameters.length) (hstack : g.stack = argsL.reverse ++ .ref b :: rest) {W : Nat} (hW : 2 * g.monitorRoom + (rest.map fun v => v.category).sum ≤ W)
    (hd : decode c.code g.pc = .ok (.invokevirtual index, 3)) (hf : rm.frames + 1 ≤ R.frames) (hl : W + (maxL + 11) + rm.locals ≤ R.locals) (hc : cells + rm.cells ≤ R.cells) (hs : slots + rm.slots ≤ R.slots) :
    ∃ v T' L h', Stand p l e R s m args below meth c T' (locs ++ L) (cells + rm.cells) (slots + rm.slots) ∧ T'.heap = h' ∧ Q v h' L ∧ Steps p.tables e below (T.setTop g) (T'.setTop { g with pc := g.pc + 3, stack := v.toList ++ rest }) := by
  obtain ⟨cq, kq, qa, qb, qc⟩ := isOf hZ eT E
  obtain ⟨v, _, ⟨T1, L1, k1, n1⟩, -, X1, ⟨Lc, hQ, l1, y1, z1⟩, st⟩ := X.virtualBack hx (y := y) (z := y) hown (mvT hZ w1) (mvT hZ w2) (notFace_of_selects (args := #[]) (mvT hZ w3)) (mvT hZ w3) (mvT hZ w4) hy (backOf (rm := rm) (W := W) hM hZ w5 w6 hf hl) qa qc (g := g) hg hsize (Steps.refl _) (argsL := argsL) (rest := rest) hlen hstack hW hd (fun _ _ => ⟨rfl, eT, hc, hs⟩)
  dsimp only [Pt.U, Pt.locs, Pt.cells, Pt.slots] at X1 l1 y1 z1 st hQ
  subst l1 y1 z1
  exact ⟨v, T1, Lc, _, X1, rfl, hQ, st⟩
theorem own_callI (X : Stand p l e R s m args below meth c T locs cells slots) (hx : p.tables.exec = Jvm.exec) (hZ : Z.Warmed39 s.vm) {own : String} {index : Nat} {y : MethodName} {bytes : ByteArray} {maxL : Nat} {rm : Room} {Q : Option Value → Heap → List Loc → Prop} {argsL rest : List Value} {g : JFrame} (hy1 : y.name = "<init>")
    (hown : s.vm.findClass own = some m.cls) (w1 : (Cond.methodLink own index y).before a0 Z = true) (w2 : (Cond.instanceMethod y).before a0 Z = true) (w3 : (Cond.code y bytes maxL none).before a0 Z = true) (w4 : (Cond.initialized y.cls).before a0 Z = true)
    (hy : y.cls ≠ "java/lang/invoke/MethodHandle" ∧ y.cls ≠ "java/lang/invoke/VarHandle")
    (hM : MetFree l y (head1 [Cond.code y bytes maxL none] rm) (fun a U => a = (.ref b :: argsL).toArray ∧ Z.Warmed39 U.vm ∧ U.heap = h) (fun _ _ _ _ _ => True) (fun _ U o U' => ∃ v L, o = .returned v ∧ Q v U'.heap L ∧ FrameEnd U o U' L rm.cells rm.slots))
    (eT : T.heap = h) (hg : g.method = m) (hsize : g.locals.size = c.maxLocals) (hlen : ∀ sig, parseMethodDescriptor y.desc = some sig → argsL.length = sig.parameters.length) (hstack : g.stack = argsL.reverse ++ .ref b :: rest) {W : Nat} (hW : 2 * g.monitorRoom + (rest.map fun v => v.category).sum ≤ W)
    (hd : decode c.code g.pc = .ok (.invokespecial index, 3)) (hf : rm.frames + 1 ≤ R.frames) (hl : W + (maxL + 11) + rm.locals ≤ R.locals) (hc : cells + rm.cells ≤ R.cells) (hs : slots + rm.slots ≤ R.slots) :
    ∃ v T' L h', Stand p l e R s m args below meth c T' (locs ++ L) (cells + rm.cells) (slots + rm.slots) ∧ T'.heap = h' ∧ Q v h' L ∧ Steps p.tables e below (T.setTop g) (T'.setTop { g with pc := g.pc + 3, stack := v.toList ++ rest }) := by
  obtain ⟨v, _, ⟨T1, L1, k1, n1⟩, -, X1, ⟨Lc, hQ, l1, y1, z1⟩, st⟩ := X.specialBack hx (y := y) hy1 hown (mvT hZ w1) (mvT hZ w2) (mvT hZ w3) hy (backOf (rm := rm) (W := W) hM hZ w3 w4 hf hl) (g := g) hg hsize (Steps.refl _) (a := b) (argsL := argsL) (rest := rest) hlen hstack hW hd (fun _ _ => ⟨rfl, eT, hc, hs⟩)
  dsimp only [Pt.U, Pt.locs, Pt.cells, Pt.slots] at X1 l1 y1 z1 st hQ
  subst l1 y1 z1
  exact ⟨v, T1, Lc, _, X1, rfl, hQ, st⟩
end Own2
section Own3
variable {p : Program} {l : Launch} {e : Env} {R : Room} {s : State} {m : MethodId} {args : Array Value} {below : List Frame} {meth : Method} {c : Code} {T : State} {locs : List Loc} {cells slots : Nat} {Z : State} {a0 : Array Value} {h h' : Heap} {a b : Addr} {C : String}
/-- a call of an instance method that writes nothing -/
theorem own_callR (X : Stand p l e R s m args below meth c T locs cells slots) (hx : p.tables.exec = Jvm.exec) (hZ : Z.Warmed39 s.vm) {own : String} {index : Nat} {y : MethodName} {bytes : ByteArray} {maxL : Nat} {ret : Option FieldType} {fr lo : Nat} {r : Value} {argsL rest : List Value} {g : JFrame}
    (hown : s.vm.findClass own = some m.cls) (w1 : (Cond.methodLink own index y).before a0 Z = true) (w2 : (Cond.declares y).before a0 Z = true) (w3 : (Cond.selects C y y).before a0 Z = true) (w4 : (Cond.instanceMethod y).before a0 Z = true) (w5 : (Cond.code y bytes maxL ret).before a0 Z = true) (w6 : (Cond.initialized y.cls).before a0 Z = true)
    (hy : y.cls ≠ "java/lang/invoke/MethodHandle" ∧ y.cls ≠ "java/lang/invoke/VarHandle") (E : Exa Z h b C)
    (hM : MetFree l y (head1 [Cond.code y bytes maxL ret] ({ frames := fr, cells := 0, slots := 0, locals := lo } : Room)) (fun a U => a = (.ref b :: argsL).toArray ∧ Z.Warmed39 U.vm ∧ U.heap = h) (fun _ _ _ _ _ => True) (fun _ U o U' => ∃ v L, o = .returned v ∧ QP r h v U'.heap L ∧ FrameEnd U o U' L 0 0))
    (eT : T.heap = h) (hg : g.method = m) (hsize : g.locals.size = c.maxLocals) (hlen : ∀ sig, parseMethodDescriptor y.desc = some sig → argsL.length = sig.parameters.length) (hstack : g.stack = argsL.reverse ++ .ref b :: rest) {W : Nat} (hW : 2 * g.monitorRoom + (rest.map fun v => v.category).sum ≤ W)
    (hd : decode c.code g.pc = .ok (.invokevirtual index, 3)) (hf : fr + 1 ≤ R.frames) (hl : W + (maxL + 11) + lo ≤ R.locals) (hc : cells ≤ R.cells) (hs : slots ≤ R.slots) :
    ∃ T', Stand p l e R s m args below meth c T' locs cells slots ∧ T'.heap = h ∧ ∀ target, Steps p.tables e below (T'.setTop { g with pc := g.pc + 3, stack := r :: rest }) target → Steps p.tables e below (T.setTop g) target := by
  obtain ⟨v, T1, L1, h1, X1, e1, ⟨rfl, rfl, q⟩, st⟩ := own_callV X hx hZ hown w1 w2 w3 w4 w5 w6 hy E (rm := ({ frames := fr, cells := 0, slots := 0, locals := lo } : Room)) hM eT hg hsize hlen hstack hW hd hf hl hc hs
  rw [List.append_nil] at X1
  exact ⟨T1, X1, e1.trans q, fun t k => st.trans k⟩
/-- a call of a private instance method by its contract -/
theorem own_callX (X : Stand p l e R s m args below meth c T locs cells slots) (hx : p.tables.exec = Jvm.exec) (hZ : Z.Warmed39 s.vm) {own : String} {index : Nat} {y : MethodName} {bytes : ByteArray} {maxL kk : Nat} {ret : Option FieldType} {rm : Room} {Q : Option Value → Heap → List Loc → Prop} {argsL rest : List Value} {g : JFrame}
    (hown : s.vm.findClass own = some m.cls) (w1 : (Cond.methodLink own index y).before a0 Z = true) (w2 : (Cond.instanceMethod y).before a0 Z = true) (w3 : (Cond.privateMethod y).before a0 Z = true) (w4 : (Cond.code y bytes maxL ret).before a0 Z = true) (w5 : (Cond.initialized y.cls).before a0 Z = true) (w6 : (Cond.instantiable y.cls kk).before a0 Z = true)
    (hy : y.cls ≠ "java/lang/invoke/MethodHandle" ∧ y.cls ≠ "java/lang/invoke/VarHandle") (E : Exa Z h b C)
    (hM : MetFree l y (head1 [Cond.code y bytes maxL ret] rm) (fun a U => a = (.ref b :: argsL).toArray ∧ Z.Warmed39 U.vm ∧ U.heap = h) (fun _ _ _ _ _ => True) (fun _ U o U' => ∃ v L, o = .returned v ∧ Q v U'.heap L ∧ FrameEnd U o U' L rm.cells rm.slots))
    (eT : T.heap = h) (hg : g.method = m) (hsize : g.locals.size = c.maxLocals) (hlen : ∀ sig, parseMethodDescriptor y.desc = some sig → argsL.length = sig.parameters.length) (hstack : g.stack = argsL.reverse ++ .ref b :: rest) {W : Nat} (hW : 2 * g.monitorRoom + (rest.map fun v => v.category).sum ≤ W)
    (hd : decode c.code g.pc = .ok (.invokevirtual index, 3)) (hf : rm.frames + 1 ≤ R.frames) (hl : W + (maxL + 11) + rm.locals ≤ R.locals) (hc : cells + rm.cells ≤ R.cells) (hs : slots + rm.slots ≤ R.slots) :
    ∃ v T' L h', Stand p l e R s m args below meth c T' (locs ++ L) (cells + rm.cells) (slots + rm.slots) ∧ T'.heap = h' ∧ Q v h' L ∧ Steps p.tables e below (T.setTop g) (T'.setTop { g with pc := g.pc + 3, stack := v.toList ++ rest }) := by
  have v2 : (Cond.instanceMethod y).before args s = true := mvT hZ w2
  have v4 : (Cond.code y bytes maxL ret).before args s = true := mvT hZ w4
  have v6 : (Cond.instantiable y.cls kk).before args s = true := mv hZ w6
  obtain ⟨mk, me, n1, n2, n3, n4⟩ := Cond.instanceMethod_spec v2
  obtain ⟨me', cM, n5, -, -, -, -, -, -, n6⟩ := Cond.code_spec n1 v4
  cases n2.symm.trans n5
  obtain ⟨cI, kI, i1, i2, -, i4, -⟩ := Cond.instantiable_spec v6
  cases (findClass_of_methodNamed n1).symm.trans i1
  have ni : kI.isInterface = false := by simp only [Bool.or_eq_false_iff] at i4; exact i4.1
  obtain ⟨cell, c1, c2⟩ := E.cell
  have pr := Cond.privateMethod_at (mvP hZ w3 (args := args)) mk me n1 n2
  obtain ⟨vm₁, X₁, s₁⟩ := X.invokevirtual hx hown (mvT hZ w1) n1 n2 n3 i2 ni hy (a := b) (cell := cell) (by rw [eT]; exact c1) c2 (selectMethod_private n2 pr) n2 n4 i2 ni (g := g) hg (argsL := argsL) (rest := rest) (hlen _ n6) hstack hd
  obtain ⟨v, ⟨T1, L1, k1, n1'⟩, X1, ⟨Lc, hQ, l1, y1, z1⟩, st⟩ := backOf (rm := rm) (W := W) hM hZ w4 w5 hf hl m meth c ⟨T.setVm vm₁, locs, cells, slots⟩ { g with stack := rest } (.invokevirtual index) mk (.ref b :: argsL).toArray X₁ hg hsize hd hW (X₁.named n1) ⟨rfl, eT, hc, hs⟩
  dsimp only [Pt.U, Pt.locs, Pt.cells, Pt.slots] at X1 l1 y1 z1 st hQ
  subst l1 y1 z1
  exact ⟨v, T1, Lc, _, X1, rfl, hQ, (s₁ _ fun acts => by rw [doInvoke_state]; exact Steps.refl _).trans st⟩
theorem own_callXR (X : Stand p l e R s m args below meth c T locs cells slots) (hx : p.tables.exec = Jvm.exec) (hZ : Z.Warmed39 s.vm) {own : String} {index : Nat} {y : MethodName} {bytes : ByteArray} {maxL kk : Nat} {ret : Option FieldType} {fr lo : Nat} {r : Value} {argsL rest : List Value} {g : JFrame}
    (hown : s.vm.findClass own = some m.cls) (w1 : (Cond.methodLink own index y).before a0 Z = true) (w2 : (Cond.instanceMethod y).before a0 Z = true) (w3 : (Cond.privateMethod y).before a0 Z = true) (w4 : (Cond.code y bytes maxL ret).before a0 Z = true) (w5 : (Cond.initialized y.cls).before a0 Z = true) (w6 : (Cond.instantiable y.cls kk).before a0 Z = true)
    (hy : y.cls ≠ "java/lang/invoke/MethodHandle" ∧ y.cls ≠ "java/lang/invoke/VarHandle") (E : Exa Z h b C)
    (hM : MetFree l y (head1 [Cond.code y bytes maxL ret] ({ frames := fr, cells := 0, slots := 0, locals := lo } : Room)) (fun a U => a = (.ref b :: argsL).toArray ∧ Z.Warmed39 U.vm ∧ U.heap = h) (fun _ _ _ _ _ => True) (fun _ U o U' => ∃ v L, o = .returned v ∧ QP r h v U'.heap L ∧ FrameEnd U o U' L 0 0))
    (eT : T.heap = h) (hg : g.method = m) (hsize : g.locals.size = c.maxLocals) (hlen : ∀ sig, parseMethodDescriptor y.desc = some sig → argsL.length = sig.parameters.length) (hstack : g.stack = argsL.reverse ++ .ref b :: rest) {W : Nat} (hW : 2 * g.monitorRoom + (rest.map fun v => v.category).sum ≤ W)
    (hd : decode c.code g.pc = .ok (.invokevirtual index, 3)) (hf : fr + 1 ≤ R.frames) (hl : W + (maxL + 11) + lo ≤ R.locals) (hc : cells ≤ R.cells) (hs : slots ≤ R.slots) :
    ∃ T', Stand p l e R s m args below meth c T' locs cells slots ∧ T'.heap = h ∧ ∀ target, Steps p.tables e below (T'.setTop { g with pc := g.pc + 3, stack := r :: rest }) target → Steps p.tables e below (T.setTop g) target := by
  obtain ⟨v, T1, L1, h1, X1, e1, ⟨rfl, rfl, q⟩, st⟩ := own_callX X hx hZ hown w1 w2 w3 w4 w5 w6 hy E (rm := ({ frames := fr, cells := 0, slots := 0, locals := lo } : Room)) hM eT hg hsize hlen hstack hW hd hf hl hc hs
  rw [List.append_nil] at X1
  exact ⟨T1, X1, e1.trans q, fun t k => st.trans k⟩
end Own3
theorem pd_pJrJ : parseMethodDescriptor "(J)J" = some ⟨[.long], some .long⟩ := by decide +kernel
theorem pd_pJrZ : parseMethodDescriptor "(J)Z" = some ⟨[.long], some .boolean⟩ := by decide +kernel
theorem pd_pJIrJ : parseMethodDescriptor "(JI)J" = some ⟨[.long, .int], some .long⟩ := by decide +kernel
theorem pd_pJIIrJ : parseMethodDescriptor "(JII)J" = some ⟨[.long, .int, .int], some .long⟩ := by decide +kernel
theorem pd_pJJrJ : parseMethodDescriptor "(JJ)J" = some ⟨[.long, .long], some .long⟩ := by decide +kernel
theorem d6_0 : decode jdk_29_method_49_code 0 = .ok (.lload_n 0, 1) := by decide +kernel
theorem d6_1 : decode jdk_29_method_49_code 1 = .ok (.lload_n 2, 1) := by decide +kernel
theorem d6_2 : decode jdk_29_method_49_code 2 = .ok (.ldiv, 1) := by decide +kernel
theorem d6_3 : decode jdk_29_method_49_code 3 = .ok (.lstore 4, 2) := by decide +kernel
theorem d6_5 : decode jdk_29_method_49_code 5 = .ok (.lload_n 0, 1) := by decide +kernel
theorem d6_6 : decode jdk_29_method_49_code 6 = .ok (.lload_n 2, 1) := by decide +kernel
theorem d6_7 : decode jdk_29_method_49_code 7 = .ok (.lxor, 1) := by decide +kernel
theorem d6_8 : decode jdk_29_method_49_code 8 = .ok (.lconst 0, 1) := by decide +kernel
theorem d6_9 : decode jdk_29_method_49_code 9 = .ok (.lcmp, 1) := by decide +kernel
theorem d6_10 : decode jdk_29_method_49_code 10 = .ok (.ifCond .ge 17, 3) := by decide +kernel
theorem d6_13 : decode jdk_29_method_49_code 13 = .ok (.lload 4, 2) := by decide +kernel
theorem d6_15 : decode jdk_29_method_49_code 15 = .ok (.lload_n 2, 1) := by decide +kernel
theorem d6_16 : decode jdk_29_method_49_code 16 = .ok (.lmul, 1) := by decide +kernel
theorem d6_17 : decode jdk_29_method_49_code 17 = .ok (.lload_n 0, 1) := by decide +kernel
theorem d6_18 : decode jdk_29_method_49_code 18 = .ok (.lcmp, 1) := by decide +kernel
theorem d6_19 : decode jdk_29_method_49_code 19 = .ok (.ifCond .eq 8, 3) := by decide +kernel
theorem d6_22 : decode jdk_29_method_49_code 22 = .ok (.lload 4, 2) := by decide +kernel
theorem d6_24 : decode jdk_29_method_49_code 24 = .ok (.lconst 1, 1) := by decide +kernel
theorem d6_25 : decode jdk_29_method_49_code 25 = .ok (.lsub, 1) := by decide +kernel
theorem d6_26 : decode jdk_29_method_49_code 26 = .ok (.lreturn, 1) := by decide +kernel
theorem d6_27 : decode jdk_29_method_49_code 27 = .ok (.lload 4, 2) := by decide +kernel
theorem d6_29 : decode jdk_29_method_49_code 29 = .ok (.lreturn, 1) := by decide +kernel
theorem ef_6 (m : MethodId) (q0 : Int64) (q1 : Int64) : entryFrame m #[(.long q0), (.long q1)] 6 = mkF m 0 #[.val (.long q0), .second, .val (.long q1), .second, .unset, .unset] [] := by first | (simp [entryFrame, mkF, argsToLocals, Value.category]; done) | rfl
def fdivL_27 (q0 : Int64) (q1 : Int64) : Int64 := (q0 / q1)
def fdivL (q0 : Int64) (q1 : Int64) : Int64 := if (q0 ^^^ q1) < (0 : Int64) then if ((q0 / q1) * q1) = q0 then (fdivL_27 q0 q1) else ((q0 / q1) - (1 : Int64)) else (fdivL_27 q0 q1)
set_option maxRecDepth 65536 in
set_option maxHeartbeats 40000000 in
theorem rm_fdivL (l : Launch) (Z : State) (a0 : Array Value) (hw : ∀ d ∈ tables_1, d.before a0 Z = true) (ws : List Jvm.Cond) (q0 : Int64) (q1 : Int64) (h0 : Heap) (hnz_q1 : q1 ≠ 0) :
    MetFree l (⟨"java/lang/Math", "floorDiv", "(JJ)J"⟩ : MethodName) (head1 (Jvm.Cond.code (⟨"java/lang/Math", "floorDiv", "(JJ)J"⟩ : MethodName) jdk_29_method_49_code 6 (some .long) :: ws) ({ frames := 0, cells := 0, slots := 0, locals := 0 } : Room)) (fun a U => a = #[(.long q0), (.long q1)] ∧ Z.Warmed39 U.vm ∧ U.heap = h0) (fun _ _ _ _ _ => True) (fun _ U o U' => ∃ v L, o = .returned v ∧ QP (Value.long (fdivL q0 q1)) h0 v U'.heap L ∧ FrameEnd U o U' L 0 0) := by
  refine MetFree.of_bodySF (Jvm.Free.JP.mathPlain rfl (by decide +kernel)) hisR ?_
  intro p e s m args below meth c s₁ Bd hml0 hP hK
  obtain ⟨rfl, hZ, hh⟩ := hP
  have hx := Bd.exec
  have hby := Bd.bytes
  have hlk : meth.locks = false := Bd.notSynchronized
  have hml : c.maxLocals = 6 := hml0
  have hown : s.vm.findClass "java/lang/Math" = some m.cls := findClass_of_methodNamed Bd.named
  have X0 : Stand p l e ({ frames := 0, cells := 0, slots := 0, locals := 0 } : Room) s m #[(.long q0), (.long q1)] below meth c s₁ [] 0 0 := Stand.of_body Bd
  have e0 : s₁.heap = h0 := by rw [← hh, Bd.state]; rfl
  have bfdivL_27 : ∀ (T : State) (X : Stand p l e ({ frames := 0, cells := 0, slots := 0, locals := 0 } : Room) s m #[(.long q0), (.long q1)] below meth c T [] 0 0) (eT : T.heap = h0), OEnds p e below s (QP (Value.long (fdivL_27 q0 q1)) h0) 0 0 (T.setTop (mkF m 27 #[.val (.long q0), .second, .val (.long q1), .second, .val (.long (q0 / q1)), .second] [])) := by
    intro T X eT
    refine own_by (fun _ k => XS.lload X.here hx rfl (hb hby d6_27) rfl k) ?_
    show OEnds p e below s _ _ _ (T.setTop (mkF m 29 #[.val (.long q0), .second, .val (.long q1), .second, .val (.long (q0 / q1)), .second] [(.long (q0 / q1))]))
    exact own_retJ X hx hlk Bd.returns (hb hby d6_29) ⟨congrArg (fun z => some (Value.long z)) (Eq.symm (by rw [fdivL_27] <;> rfl)), rfl, eT⟩ (Nat.le_refl _) (Nat.le_refl _)
  show OEnds p e below s _ _ _ _
  refine own_by (fun t k => castTop (ef_6 m q0 q1) k) ?_
  show OEnds p e below s _ _ _ (s₁.setTop (mkF m 0 #[.val (.long q0), .second, .val (.long q1), .second, .unset, .unset] []))
  refine own_by (fun _ k => XS.lloadN X0.here hx rfl (hb hby d6_0) rfl k) ?_
  show OEnds p e below s _ _ _ (s₁.setTop (mkF m 1 #[.val (.long q0), .second, .val (.long q1), .second, .unset, .unset] [(.long q0)]))
  refine own_by (fun _ k => XS.lloadN X0.here hx rfl (hb hby d6_1) rfl k) ?_
  show OEnds p e below s _ _ _ (s₁.setTop (mkF m 2 #[.val (.long q0), .second, .val (.long q1), .second, .unset, .unset] [(.long q1), (.long q0)]))
  refine own_by (fun _ k => XS.ldiv X0.here hx rfl (hb hby d6_2) rfl hnz_q1 k) ?_
  show OEnds p e below s _ _ _ (s₁.setTop (mkF m 3 #[.val (.long q0), .second, .val (.long q1), .second, .unset, .unset] [(.long (q0 / q1))]))
  refine own_by (fun _ k => XS.lstore X0.here hx rfl (hb hby d6_3) rfl (l' := #[.val (.long q0), .second, .val (.long q1), .second, .val (.long (q0 / q1)), .second]) rfl k) ?_
  show OEnds p e below s _ _ _ (s₁.setTop (mkF m 5 #[.val (.long q0), .second, .val (.long q1), .second, .val (.long (q0 / q1)), .second] []))
  refine own_by (fun _ k => XS.lloadN X0.here hx rfl (hb hby d6_5) rfl k) ?_
  show OEnds p e below s _ _ _ (s₁.setTop (mkF m 6 #[.val (.long q0), .second, .val (.long q1), .second, .val (.long (q0 / q1)), .second] [(.long q0)]))
  refine own_by (fun _ k => XS.lloadN X0.here hx rfl (hb hby d6_6) rfl k) ?_
  show OEnds p e below s _ _ _ (s₁.setTop (mkF m 7 #[.val (.long q0), .second, .val (.long q1), .second, .val (.long (q0 / q1)), .second] [(.long q1), (.long q0)]))
  refine own_by (fun _ k => XS.lxor X0.here hx rfl (hb hby d6_7) rfl k) ?_
  show OEnds p e below s _ _ _ (s₁.setTop (mkF m 8 #[.val (.long q0), .second, .val (.long q1), .second, .val (.long (q0 / q1)), .second] [(.long (q0 ^^^ q1))]))
  refine own_by (fun _ k => XS.lconst X0.here hx rfl (hb hby d6_8) k) ?_
  show OEnds p e below s _ _ _ (s₁.setTop (mkF m 9 #[.val (.long q0), .second, .val (.long q1), .second, .val (.long (q0 / q1)), .second] [(.long (0 : Int64)), (.long (q0 ^^^ q1))]))
  refine own_by (fun _ k => XS.lcmp X0.here hx rfl (hb hby d6_9) rfl k) ?_
  show OEnds p e below s _ _ _ (s₁.setTop (mkF m 10 #[.val (.long q0), .second, .val (.long q1), .second, .val (.long (q0 / q1)), .second] [(.int (lcmpW (q0 ^^^ q1) (0 : Int64)))]))
  by_cases hc10 : (q0 ^^^ q1) < (0 : Int64)
  · refine own_by (fun _ k => XS.ifNo X0.here hx rfl (hb hby d6_10) rfl ((if0 _ _).trans (tlt ((lw_lt _ _).mpr hc10)).2.1) k) ?_
    show OEnds p e below s _ _ _ (s₁.setTop (mkF m 13 #[.val (.long q0), .second, .val (.long q1), .second, .val (.long (q0 / q1)), .second] []))
    refine own_by (fun _ k => XS.lload X0.here hx rfl (hb hby d6_13) rfl k) ?_
    show OEnds p e below s _ _ _ (s₁.setTop (mkF m 15 #[.val (.long q0), .second, .val (.long q1), .second, .val (.long (q0 / q1)), .second] [(.long (q0 / q1))]))
    refine own_by (fun _ k => XS.lloadN X0.here hx rfl (hb hby d6_15) rfl k) ?_
    show OEnds p e below s _ _ _ (s₁.setTop (mkF m 16 #[.val (.long q0), .second, .val (.long q1), .second, .val (.long (q0 / q1)), .second] [(.long q1), (.long (q0 / q1))]))
    refine own_by (fun _ k => XS.lmul X0.here hx rfl (hb hby d6_16) rfl k) ?_
    show OEnds p e below s _ _ _ (s₁.setTop (mkF m 17 #[.val (.long q0), .second, .val (.long q1), .second, .val (.long (q0 / q1)), .second] [(.long ((q0 / q1) * q1))]))
    refine own_by (fun _ k => XS.lloadN X0.here hx rfl (hb hby d6_17) rfl k) ?_
    show OEnds p e below s _ _ _ (s₁.setTop (mkF m 18 #[.val (.long q0), .second, .val (.long q1), .second, .val (.long (q0 / q1)), .second] [(.long q0), (.long ((q0 / q1) * q1))]))
    refine own_by (fun _ k => XS.lcmp X0.here hx rfl (hb hby d6_18) rfl k) ?_
    show OEnds p e below s _ _ _ (s₁.setTop (mkF m 19 #[.val (.long q0), .second, .val (.long q1), .second, .val (.long (q0 / q1)), .second] [(.int (lcmpW ((q0 / q1) * q1) q0))]))
    by_cases hc19 : ((q0 / q1) * q1) = q0
    · refine own_by (fun _ k => XS.ifYes X0.here hx rfl (pc0 := 19) (pc' := 27) rfl (hb hby d6_19) rfl ((if0 _ _).trans (teq ((lw_eq _ _).mpr hc19)).1) (by decide) (by decide) k) ?_
      show OEnds p e below s _ _ _ (s₁.setTop (mkF m 27 #[.val (.long q0), .second, .val (.long q1), .second, .val (.long (q0 / q1)), .second] []))
      exact own_eq (congrArg Value.long (by rw [fdivL, if_pos hc10, if_pos hc19] <;> rfl)) (bfdivL_27 s₁ X0 e0)
    · refine own_by (fun _ k => XS.ifNo X0.here hx rfl (hb hby d6_19) rfl ((if0 _ _).trans (feq (fun q => hc19 ((lw_eq _ _).mp q))).1) k) ?_
      show OEnds p e below s _ _ _ (s₁.setTop (mkF m 22 #[.val (.long q0), .second, .val (.long q1), .second, .val (.long (q0 / q1)), .second] []))
      refine own_by (fun _ k => XS.lload X0.here hx rfl (hb hby d6_22) rfl k) ?_
      show OEnds p e below s _ _ _ (s₁.setTop (mkF m 24 #[.val (.long q0), .second, .val (.long q1), .second, .val (.long (q0 / q1)), .second] [(.long (q0 / q1))]))
      refine own_by (fun _ k => XS.lconst X0.here hx rfl (hb hby d6_24) k) ?_
      show OEnds p e below s _ _ _ (s₁.setTop (mkF m 25 #[.val (.long q0), .second, .val (.long q1), .second, .val (.long (q0 / q1)), .second] [(.long (1 : Int64)), (.long (q0 / q1))]))
      refine own_by (fun _ k => XS.lsub X0.here hx rfl (hb hby d6_25) rfl k) ?_
      show OEnds p e below s _ _ _ (s₁.setTop (mkF m 26 #[.val (.long q0), .second, .val (.long q1), .second, .val (.long (q0 / q1)), .second] [(.long ((q0 / q1) - (1 : Int64)))]))
      exact own_retJ X0 hx hlk Bd.returns (hb hby d6_26) ⟨congrArg (fun z => some (Value.long z)) (Eq.symm (by rw [fdivL, if_pos hc10, if_neg hc19] <;> rfl)), rfl, e0⟩ (Nat.le_refl _) (Nat.le_refl _)
  · refine own_by (fun _ k => XS.ifYes X0.here hx rfl (pc0 := 10) (pc' := 27) rfl (hb hby d6_10) rfl ((if0 _ _).trans (flt (fun q => hc10 ((lw_lt _ _).mp q))).2.1) (by decide) (by decide) k) ?_
    show OEnds p e below s _ _ _ (s₁.setTop (mkF m 27 #[.val (.long q0), .second, .val (.long q1), .second, .val (.long (q0 / q1)), .second] []))
    exact own_eq (congrArg Value.long (by rw [fdivL, if_neg hc10] <;> rfl)) (bfdivL_27 s₁ X0 e0)
theorem d5_0 : decode jdk_29_method_48_code 0 = .ok (.lload_n 0, 1) := by decide +kernel
theorem d5_1 : decode jdk_29_method_48_code 1 = .ok (.iload_n 2, 1) := by decide +kernel
theorem d5_2 : decode jdk_29_method_48_code 2 = .ok (.i2l, 1) := by decide +kernel
theorem d5_3 : decode jdk_29_method_48_code 3 = .ok (.invokestatic 143, 3) := by decide +kernel
theorem d5_6 : decode jdk_29_method_48_code 6 = .ok (.lreturn, 1) := by decide +kernel
theorem ef_5 (m : MethodId) (q0 : Int64) (q1 : Int32) : entryFrame m #[(.long q0), (.int q1)] 3 = mkF m 0 #[.val (.long q0), .second, .val (.int q1)] [] := by first | (simp [entryFrame, mkF, argsToLocals, Value.category]; done) | rfl
def fdivI (q0 : Int64) (q1 : Int32) : Int64 := (fdivL q0 (q1.toInt64))
set_option maxRecDepth 65536 in
set_option maxHeartbeats 40000000 in
theorem rm_fdivI (l : Launch) (Z : State) (a0 : Array Value) (hw : ∀ d ∈ tables_1, d.before a0 Z = true) (ws : List Jvm.Cond) (q0 : Int64) (q1 : Int32) (h0 : Heap) (hnz : (q1.toInt64) ≠ 0) :
    MetFree l (⟨"java/lang/Math", "floorDiv", "(JI)J"⟩ : MethodName) (head1 (Jvm.Cond.code (⟨"java/lang/Math", "floorDiv", "(JI)J"⟩ : MethodName) jdk_29_method_48_code 3 (some .long) :: ws) ({ frames := 1, cells := 0, slots := 0, locals := 17 } : Room)) (fun a U => a = #[(.long q0), (.int q1)] ∧ Z.Warmed39 U.vm ∧ U.heap = h0) (fun _ _ _ _ _ => True) (fun _ U o U' => ∃ v L, o = .returned v ∧ QP (Value.long (fdivI q0 q1)) h0 v U'.heap L ∧ FrameEnd U o U' L 0 0) := by
  refine MetFree.of_bodySF (Jvm.Free.JP.mathPlain rfl (by decide +kernel)) hisR ?_
  intro p e s m args below meth c s₁ Bd hml0 hP hK
  obtain ⟨rfl, hZ, hh⟩ := hP
  have hx := Bd.exec
  have hby := Bd.bytes
  have hlk : meth.locks = false := Bd.notSynchronized
  have hml : c.maxLocals = 3 := hml0
  have hown : s.vm.findClass "java/lang/Math" = some m.cls := findClass_of_methodNamed Bd.named
  have X0 : Stand p l e ({ frames := 1, cells := 0, slots := 0, locals := 17 } : Room) s m #[(.long q0), (.int q1)] below meth c s₁ [] 0 0 := Stand.of_body Bd
  have e0 : s₁.heap = h0 := by rw [← hh, Bd.state]; rfl
  show OEnds p e below s _ _ _ _
  refine own_by (fun t k => castTop (ef_5 m q0 q1) k) ?_
  show OEnds p e below s _ _ _ (s₁.setTop (mkF m 0 #[.val (.long q0), .second, .val (.int q1)] []))
  refine own_by (fun _ k => XS.lloadN X0.here hx rfl (hb hby d5_0) rfl k) ?_
  show OEnds p e below s _ _ _ (s₁.setTop (mkF m 1 #[.val (.long q0), .second, .val (.int q1)] [(.long q0)]))
  refine own_by (fun _ k => XS.iloadN X0.here hx rfl (hb hby d5_1) rfl k) ?_
  show OEnds p e below s _ _ _ (s₁.setTop (mkF m 2 #[.val (.long q0), .second, .val (.int q1)] [(.int q1), (.long q0)]))
  refine own_by (fun _ k => XS.i2l X0.here hx rfl (hb hby d5_2) rfl k) ?_
  show OEnds p e below s _ _ _ (s₁.setTop (mkF m 3 #[.val (.long q0), .second, .val (.int q1)] [(.long (q1.toInt64)), (.long q0)]))
  obtain ⟨T2, X2, e2, st2⟩ := own_callP X0 hx hZ (y := (⟨"java/lang/Math", "floorDiv", "(JJ)J"⟩ : MethodName)) hown (hw _ (List.mem_of_getElem? (i := 26) rfl)) (hw _ (List.mem_of_getElem? (i := 27) rfl)) (hw _ (List.mem_of_getElem? (i := 24) rfl)) (hw _ (List.mem_of_getElem? (i := 28) rfl)) (by decide) (rm_fdivL l Z a0 hw [] q0 (q1.toInt64) h0 hnz) e0 (g := (mkF m 3 #[.val (.long q0), .second, .val (.int q1)] [(.long (q1.toInt64)), (.long q0)])) rfl (by rw [hml]; rfl) (argsL := [(.long q0), (.long (q1.toInt64))]) (rest := []) (lenOf pd_pJJrJ rfl) rfl (W := 0) (by show 2 * 0 + _ ≤ _; exact Nat.le_of_eq rfl) (hb hby d5_3) (by decide) (by decide) (by decide) (by decide)
  refine own_by st2 ?_
  show OEnds p e below s _ _ _ (T2.setTop (mkF m 6 #[.val (.long q0), .second, .val (.int q1)] [(.long (fdivL q0 (q1.toInt64)))]))
  exact own_retJ X2 hx hlk Bd.returns (hb hby d5_6) ⟨congrArg (fun z => some (Value.long z)) (Eq.symm (by rw [fdivI] <;> rfl)), rfl, e2⟩ (Nat.le_refl _) (Nat.le_refl _)
theorem d4_0 : decode prog_18_method_2_code 0 = .ok (.iload_n 2, 1) := by decide +kernel
theorem d4_1 : decode prog_18_method_2_code 1 = .ok (.bipush 9, 2) := by decide +kernel
theorem d4_3 : decode prog_18_method_2_code 3 = .ok (.iadd, 1) := by decide +kernel
theorem d4_4 : decode prog_18_method_2_code 4 = .ok (.bipush 12, 2) := by decide +kernel
theorem d4_6 : decode prog_18_method_2_code 6 = .ok (.irem, 1) := by decide +kernel
theorem d4_7 : decode prog_18_method_2_code 7 = .ok (.istore 4, 2) := by decide +kernel
theorem d4_9 : decode prog_18_method_2_code 9 = .ok (.lload_n 0, 1) := by decide +kernel
theorem d4_10 : decode prog_18_method_2_code 10 = .ok (.iload 4, 2) := by decide +kernel
theorem d4_12 : decode prog_18_method_2_code 12 = .ok (.bipush 10, 2) := by decide +kernel
theorem d4_14 : decode prog_18_method_2_code 14 = .ok (.idiv, 1) := by decide +kernel
theorem d4_15 : decode prog_18_method_2_code 15 = .ok (.i2l, 1) := by decide +kernel
theorem d4_16 : decode prog_18_method_2_code 16 = .ok (.lsub, 1) := by decide +kernel
theorem d4_17 : decode prog_18_method_2_code 17 = .ok (.lstore 5, 2) := by decide +kernel
theorem d4_19 : decode prog_18_method_2_code 19 = .ok (.lload 5, 2) := by decide +kernel
theorem d4_21 : decode prog_18_method_2_code 21 = .ok (.sipush 400, 3) := by decide +kernel
theorem d4_24 : decode prog_18_method_2_code 24 = .ok (.invokestatic 9, 3) := by decide +kernel
theorem d4_27 : decode prog_18_method_2_code 27 = .ok (.lstore 7, 2) := by decide +kernel
theorem d4_29 : decode prog_18_method_2_code 29 = .ok (.lload 5, 2) := by decide +kernel
theorem d4_31 : decode prog_18_method_2_code 31 = .ok (.lload 7, 2) := by decide +kernel
theorem d4_33 : decode prog_18_method_2_code 33 = .ok (.ldc2_w 15, 3) := by decide +kernel
theorem d4_36 : decode prog_18_method_2_code 36 = .ok (.lmul, 1) := by decide +kernel
theorem d4_37 : decode prog_18_method_2_code 37 = .ok (.lsub, 1) := by decide +kernel
theorem d4_38 : decode prog_18_method_2_code 38 = .ok (.lstore 9, 2) := by decide +kernel
theorem d4_40 : decode prog_18_method_2_code 40 = .ok (.sipush 153, 3) := by decide +kernel
theorem d4_43 : decode prog_18_method_2_code 43 = .ok (.iload 4, 2) := by decide +kernel
theorem d4_45 : decode prog_18_method_2_code 45 = .ok (.imul, 1) := by decide +kernel
theorem d4_46 : decode prog_18_method_2_code 46 = .ok (.iconst 2, 1) := by decide +kernel
theorem d4_47 : decode prog_18_method_2_code 47 = .ok (.iadd, 1) := by decide +kernel
theorem d4_48 : decode prog_18_method_2_code 48 = .ok (.iconst 5, 1) := by decide +kernel
theorem d4_49 : decode prog_18_method_2_code 49 = .ok (.idiv, 1) := by decide +kernel
theorem d4_50 : decode prog_18_method_2_code 50 = .ok (.iload_n 3, 1) := by decide +kernel
theorem d4_51 : decode prog_18_method_2_code 51 = .ok (.iadd, 1) := by decide +kernel
theorem d4_52 : decode prog_18_method_2_code 52 = .ok (.iconst 1, 1) := by decide +kernel
theorem d4_53 : decode prog_18_method_2_code 53 = .ok (.isub, 1) := by decide +kernel
theorem d4_54 : decode prog_18_method_2_code 54 = .ok (.istore 11, 2) := by decide +kernel
theorem d4_56 : decode prog_18_method_2_code 56 = .ok (.lload 9, 2) := by decide +kernel
theorem d4_58 : decode prog_18_method_2_code 58 = .ok (.ldc2_w 17, 3) := by decide +kernel
theorem d4_61 : decode prog_18_method_2_code 61 = .ok (.lmul, 1) := by decide +kernel
theorem d4_62 : decode prog_18_method_2_code 62 = .ok (.lload 9, 2) := by decide +kernel
theorem d4_64 : decode prog_18_method_2_code 64 = .ok (.ldc2_w 19, 3) := by decide +kernel
theorem d4_67 : decode prog_18_method_2_code 67 = .ok (.ldiv, 1) := by decide +kernel
theorem d4_68 : decode prog_18_method_2_code 68 = .ok (.ladd, 1) := by decide +kernel
theorem d4_69 : decode prog_18_method_2_code 69 = .ok (.lload 9, 2) := by decide +kernel
theorem d4_71 : decode prog_18_method_2_code 71 = .ok (.ldc2_w 21, 3) := by decide +kernel
theorem d4_74 : decode prog_18_method_2_code 74 = .ok (.ldiv, 1) := by decide +kernel
theorem d4_75 : decode prog_18_method_2_code 75 = .ok (.lsub, 1) := by decide +kernel
theorem d4_76 : decode prog_18_method_2_code 76 = .ok (.iload 11, 2) := by decide +kernel
theorem d4_78 : decode prog_18_method_2_code 78 = .ok (.i2l, 1) := by decide +kernel
theorem d4_79 : decode prog_18_method_2_code 79 = .ok (.ladd, 1) := by decide +kernel
theorem d4_80 : decode prog_18_method_2_code 80 = .ok (.lstore 12, 2) := by decide +kernel
theorem d4_82 : decode prog_18_method_2_code 82 = .ok (.lload 7, 2) := by decide +kernel
theorem d4_84 : decode prog_18_method_2_code 84 = .ok (.ldc2_w 23, 3) := by decide +kernel
theorem d4_87 : decode prog_18_method_2_code 87 = .ok (.lmul, 1) := by decide +kernel
theorem d4_88 : decode prog_18_method_2_code 88 = .ok (.lload 12, 2) := by decide +kernel
theorem d4_90 : decode prog_18_method_2_code 90 = .ok (.ladd, 1) := by decide +kernel
theorem d4_91 : decode prog_18_method_2_code 91 = .ok (.ldc2_w 25, 3) := by decide +kernel
theorem d4_94 : decode prog_18_method_2_code 94 = .ok (.lsub, 1) := by decide +kernel
theorem d4_95 : decode prog_18_method_2_code 95 = .ok (.lreturn, 1) := by decide +kernel
theorem pn_4 : plainName "com/example/exact_membership/exactmembership/model/EpochDays" = true := by first | (simp [plainName, overriddenIn]; done) | decide +kernel
theorem ef_4 (m : MethodId) (q0 : Int64) (q1 : Int32) (q2 : Int32) : entryFrame m #[(.long q0), (.int q1), (.int q2)] 14 = mkF m 0 #[.val (.long q0), .second, .val (.int q1), .val (.int q2), .unset, .unset, .unset, .unset, .unset, .unset, .unset, .unset, .unset, .unset] [] := by first | (simp [entryFrame, mkF, argsToLocals, Value.category]; done) | rfl
def epof_82 (v29_7 : Int64) (v82_12 : Int64) : Int64 := (((v29_7 * (146097 : Int64)) + v82_12) - (719468 : Int64))
def epof_56 (v29_7 : Int64) (v40_9 : Int64) (v56_11 : Int32) : Int64 := (epof_82 v29_7 ((((v40_9 * (365 : Int64)) + (v40_9 / (4 : Int64))) - (v40_9 / (100 : Int64))) + (v56_11.toInt64)))
def epof_40 (q2 : Int32) (v9_4 : Int32) (v29_7 : Int64) (v40_9 : Int64) : Int64 := (epof_56 v29_7 v40_9 ((((((153 : Int32) * v9_4) + (2 : Int32)) / (5 : Int32)) + q2) - (1 : Int32)))
def epof_29 (q2 : Int32) (v9_4 : Int32) (v19_5 : Int64) (v29_7 : Int64) : Int64 := (epof_40 q2 v9_4 v29_7 (v19_5 - (v29_7 * (400 : Int64))))
def epof_19 (q2 : Int32) (v9_4 : Int32) (v19_5 : Int64) : Int64 := (epof_29 q2 v9_4 v19_5 (fdivI v19_5 (400 : Int32)))
def epof_9 (q0 : Int64) (q2 : Int32) (v9_4 : Int32) : Int64 := (epof_19 q2 v9_4 (q0 - ((v9_4 / (10 : Int32)).toInt64)))
def epof (q0 : Int64) (q1 : Int32) (q2 : Int32) : Int64 := (epof_9 q0 q2 ((q1 + (9 : Int32)) % (12 : Int32)))
set_option maxRecDepth 65536 in
set_option maxHeartbeats 40000000 in
theorem rm_epof (l : Launch) (Z : State) (a0 : Array Value) (hw : ∀ d ∈ tables_1, d.before a0 Z = true) (ws : List Jvm.Cond) (q0 : Int64) (q1 : Int32) (q2 : Int32) (h0 : Heap) :
    MetFree l (⟨"com/example/exact_membership/exactmembership/model/EpochDays", "of", "(JII)J"⟩ : MethodName) (head1 (Jvm.Cond.code (⟨"com/example/exact_membership/exactmembership/model/EpochDays", "of", "(JII)J"⟩ : MethodName) prog_18_method_2_code 14 (some .long) :: ws) ({ frames := 2, cells := 0, slots := 0, locals := 31 } : Room)) (fun a U => a = #[(.long q0), (.int q1), (.int q2)] ∧ Z.Warmed39 U.vm ∧ U.heap = h0) (fun _ _ _ _ _ => True) (fun _ U o U' => ∃ v L, o = .returned v ∧ QP (Value.long (epof q0 q1 q2)) h0 v U'.heap L ∧ FrameEnd U o U' L 0 0) := by
  refine MetFree.of_bodySF (plainFor_of_name pn_4) hisR ?_
  intro p e s m args below meth c s₁ Bd hml0 hP hK
  obtain ⟨rfl, hZ, hh⟩ := hP
  have hx := Bd.exec
  have hby := Bd.bytes
  have hlk : meth.locks = false := Bd.notSynchronized
  have hml : c.maxLocals = 14 := hml0
  have hown : s.vm.findClass "com/example/exact_membership/exactmembership/model/EpochDays" = some m.cls := findClass_of_methodNamed Bd.named
  have X0 : Stand p l e ({ frames := 2, cells := 0, slots := 0, locals := 31 } : Room) s m #[(.long q0), (.int q1), (.int q2)] below meth c s₁ [] 0 0 := Stand.of_body Bd
  have e0 : s₁.heap = h0 := by rw [← hh, Bd.state]; rfl
  have bepof_82 : ∀ (T : State) (X : Stand p l e ({ frames := 2, cells := 0, slots := 0, locals := 31 } : Room) s m #[(.long q0), (.int q1), (.int q2)] below meth c T [] 0 0) (eT : T.heap = h0) (v9_4 : Int32) (v19_5 : Int64) (v29_7 : Int64) (v40_9 : Int64) (v56_11 : Int32) (v82_12 : Int64), OEnds p e below s (QP (Value.long (epof_82 v29_7 v82_12)) h0) 0 0 (T.setTop (mkF m 82 #[.val (.long q0), .second, .val (.int q1), .val (.int q2), .val (.int v9_4), .val (.long v19_5), .second, .val (.long v29_7), .second, .val (.long v40_9), .second, .val (.int v56_11), .val (.long v82_12), .second] [])) := by
    intro T X eT v9_4 v19_5 v29_7 v40_9 v56_11 v82_12
    refine own_by (fun _ k => XS.lload X.here hx rfl (hb hby d4_82) rfl k) ?_
    show OEnds p e below s _ _ _ (T.setTop (mkF m 84 #[.val (.long q0), .second, .val (.int q1), .val (.int q2), .val (.int v9_4), .val (.long v19_5), .second, .val (.long v29_7), .second, .val (.long v40_9), .second, .val (.int v56_11), .val (.long v82_12), .second] [(.long v29_7)]))
    refine own_by (X.ldc2Long hx hown (mvT hZ (hw _ (List.mem_of_getElem? (i := 33) rfl))) (g := (mkF m 84 #[.val (.long q0), .second, .val (.int q1), .val (.int q2), .val (.int v9_4), .val (.long v19_5), .second, .val (.long v29_7), .second, .val (.long v40_9), .second, .val (.int v56_11), .val (.long v82_12), .second] [(.long v29_7)])) rfl (hb hby d4_84)) ?_
    show OEnds p e below s _ _ _ (T.setTop (mkF m 87 #[.val (.long q0), .second, .val (.int q1), .val (.int q2), .val (.int v9_4), .val (.long v19_5), .second, .val (.long v29_7), .second, .val (.long v40_9), .second, .val (.int v56_11), .val (.long v82_12), .second] [(.long (146097 : Int64)), (.long v29_7)]))
    refine own_by (fun _ k => XS.lmul X.here hx rfl (hb hby d4_87) rfl k) ?_
    show OEnds p e below s _ _ _ (T.setTop (mkF m 88 #[.val (.long q0), .second, .val (.int q1), .val (.int q2), .val (.int v9_4), .val (.long v19_5), .second, .val (.long v29_7), .second, .val (.long v40_9), .second, .val (.int v56_11), .val (.long v82_12), .second] [(.long (v29_7 * (146097 : Int64)))]))
    refine own_by (fun _ k => XS.lload X.here hx rfl (hb hby d4_88) rfl k) ?_
    show OEnds p e below s _ _ _ (T.setTop (mkF m 90 #[.val (.long q0), .second, .val (.int q1), .val (.int q2), .val (.int v9_4), .val (.long v19_5), .second, .val (.long v29_7), .second, .val (.long v40_9), .second, .val (.int v56_11), .val (.long v82_12), .second] [(.long v82_12), (.long (v29_7 * (146097 : Int64)))]))
    refine own_by (fun _ k => XS.ladd X.here hx rfl (hb hby d4_90) rfl k) ?_
    show OEnds p e below s _ _ _ (T.setTop (mkF m 91 #[.val (.long q0), .second, .val (.int q1), .val (.int q2), .val (.int v9_4), .val (.long v19_5), .second, .val (.long v29_7), .second, .val (.long v40_9), .second, .val (.int v56_11), .val (.long v82_12), .second] [(.long ((v29_7 * (146097 : Int64)) + v82_12))]))
    refine own_by (X.ldc2Long hx hown (mvT hZ (hw _ (List.mem_of_getElem? (i := 34) rfl))) (g := (mkF m 91 #[.val (.long q0), .second, .val (.int q1), .val (.int q2), .val (.int v9_4), .val (.long v19_5), .second, .val (.long v29_7), .second, .val (.long v40_9), .second, .val (.int v56_11), .val (.long v82_12), .second] [(.long ((v29_7 * (146097 : Int64)) + v82_12))])) rfl (hb hby d4_91)) ?_
    show OEnds p e below s _ _ _ (T.setTop (mkF m 94 #[.val (.long q0), .second, .val (.int q1), .val (.int q2), .val (.int v9_4), .val (.long v19_5), .second, .val (.long v29_7), .second, .val (.long v40_9), .second, .val (.int v56_11), .val (.long v82_12), .second] [(.long (719468 : Int64)), (.long ((v29_7 * (146097 : Int64)) + v82_12))]))
    refine own_by (fun _ k => XS.lsub X.here hx rfl (hb hby d4_94) rfl k) ?_
    show OEnds p e below s _ _ _ (T.setTop (mkF m 95 #[.val (.long q0), .second, .val (.int q1), .val (.int q2), .val (.int v9_4), .val (.long v19_5), .second, .val (.long v29_7), .second, .val (.long v40_9), .second, .val (.int v56_11), .val (.long v82_12), .second] [(.long (((v29_7 * (146097 : Int64)) + v82_12) - (719468 : Int64)))]))
    exact own_retJ X hx hlk Bd.returns (hb hby d4_95) ⟨congrArg (fun z => some (Value.long z)) (Eq.symm (by rw [epof_82] <;> rfl)), rfl, eT⟩ (Nat.le_refl _) (Nat.le_refl _)
  have bepof_56 : ∀ (T : State) (X : Stand p l e ({ frames := 2, cells := 0, slots := 0, locals := 31 } : Room) s m #[(.long q0), (.int q1), (.int q2)] below meth c T [] 0 0) (eT : T.heap = h0) (v9_4 : Int32) (v19_5 : Int64) (v29_7 : Int64) (v40_9 : Int64) (v56_11 : Int32), OEnds p e below s (QP (Value.long (epof_56 v29_7 v40_9 v56_11)) h0) 0 0 (T.setTop (mkF m 56 #[.val (.long q0), .second, .val (.int q1), .val (.int q2), .val (.int v9_4), .val (.long v19_5), .second, .val (.long v29_7), .second, .val (.long v40_9), .second, .val (.int v56_11), .unset, .unset] [])) := by
    intro T X eT v9_4 v19_5 v29_7 v40_9 v56_11
    refine own_by (fun _ k => XS.lload X.here hx rfl (hb hby d4_56) rfl k) ?_
    show OEnds p e below s _ _ _ (T.setTop (mkF m 58 #[.val (.long q0), .second, .val (.int q1), .val (.int q2), .val (.int v9_4), .val (.long v19_5), .second, .val (.long v29_7), .second, .val (.long v40_9), .second, .val (.int v56_11), .unset, .unset] [(.long v40_9)]))
    refine own_by (X.ldc2Long hx hown (mvT hZ (hw _ (List.mem_of_getElem? (i := 30) rfl))) (g := (mkF m 58 #[.val (.long q0), .second, .val (.int q1), .val (.int q2), .val (.int v9_4), .val (.long v19_5), .second, .val (.long v29_7), .second, .val (.long v40_9), .second, .val (.int v56_11), .unset, .unset] [(.long v40_9)])) rfl (hb hby d4_58)) ?_
    show OEnds p e below s _ _ _ (T.setTop (mkF m 61 #[.val (.long q0), .second, .val (.int q1), .val (.int q2), .val (.int v9_4), .val (.long v19_5), .second, .val (.long v29_7), .second, .val (.long v40_9), .second, .val (.int v56_11), .unset, .unset] [(.long (365 : Int64)), (.long v40_9)]))
    refine own_by (fun _ k => XS.lmul X.here hx rfl (hb hby d4_61) rfl k) ?_
    show OEnds p e below s _ _ _ (T.setTop (mkF m 62 #[.val (.long q0), .second, .val (.int q1), .val (.int q2), .val (.int v9_4), .val (.long v19_5), .second, .val (.long v29_7), .second, .val (.long v40_9), .second, .val (.int v56_11), .unset, .unset] [(.long (v40_9 * (365 : Int64)))]))
    refine own_by (fun _ k => XS.lload X.here hx rfl (hb hby d4_62) rfl k) ?_
    show OEnds p e below s _ _ _ (T.setTop (mkF m 64 #[.val (.long q0), .second, .val (.int q1), .val (.int q2), .val (.int v9_4), .val (.long v19_5), .second, .val (.long v29_7), .second, .val (.long v40_9), .second, .val (.int v56_11), .unset, .unset] [(.long v40_9), (.long (v40_9 * (365 : Int64)))]))
    refine own_by (X.ldc2Long hx hown (mvT hZ (hw _ (List.mem_of_getElem? (i := 31) rfl))) (g := (mkF m 64 #[.val (.long q0), .second, .val (.int q1), .val (.int q2), .val (.int v9_4), .val (.long v19_5), .second, .val (.long v29_7), .second, .val (.long v40_9), .second, .val (.int v56_11), .unset, .unset] [(.long v40_9), (.long (v40_9 * (365 : Int64)))])) rfl (hb hby d4_64)) ?_
    show OEnds p e below s _ _ _ (T.setTop (mkF m 67 #[.val (.long q0), .second, .val (.int q1), .val (.int q2), .val (.int v9_4), .val (.long v19_5), .second, .val (.long v29_7), .second, .val (.long v40_9), .second, .val (.int v56_11), .unset, .unset] [(.long (4 : Int64)), (.long v40_9), (.long (v40_9 * (365 : Int64)))]))
    refine own_by (fun _ k => XS.ldiv X.here hx rfl (hb hby d4_67) rfl (by decide) k) ?_
    show OEnds p e below s _ _ _ (T.setTop (mkF m 68 #[.val (.long q0), .second, .val (.int q1), .val (.int q2), .val (.int v9_4), .val (.long v19_5), .second, .val (.long v29_7), .second, .val (.long v40_9), .second, .val (.int v56_11), .unset, .unset] [(.long (v40_9 / (4 : Int64))), (.long (v40_9 * (365 : Int64)))]))
    refine own_by (fun _ k => XS.ladd X.here hx rfl (hb hby d4_68) rfl k) ?_
    show OEnds p e below s _ _ _ (T.setTop (mkF m 69 #[.val (.long q0), .second, .val (.int q1), .val (.int q2), .val (.int v9_4), .val (.long v19_5), .second, .val (.long v29_7), .second, .val (.long v40_9), .second, .val (.int v56_11), .unset, .unset] [(.long ((v40_9 * (365 : Int64)) + (v40_9 / (4 : Int64))))]))
    refine own_by (fun _ k => XS.lload X.here hx rfl (hb hby d4_69) rfl k) ?_
    show OEnds p e below s _ _ _ (T.setTop (mkF m 71 #[.val (.long q0), .second, .val (.int q1), .val (.int q2), .val (.int v9_4), .val (.long v19_5), .second, .val (.long v29_7), .second, .val (.long v40_9), .second, .val (.int v56_11), .unset, .unset] [(.long v40_9), (.long ((v40_9 * (365 : Int64)) + (v40_9 / (4 : Int64))))]))
    refine own_by (X.ldc2Long hx hown (mvT hZ (hw _ (List.mem_of_getElem? (i := 32) rfl))) (g := (mkF m 71 #[.val (.long q0), .second, .val (.int q1), .val (.int q2), .val (.int v9_4), .val (.long v19_5), .second, .val (.long v29_7), .second, .val (.long v40_9), .second, .val (.int v56_11), .unset, .unset] [(.long v40_9), (.long ((v40_9 * (365 : Int64)) + (v40_9 / (4 : Int64))))])) rfl (hb hby d4_71)) ?_
    show OEnds p e below s _ _ _ (T.setTop (mkF m 74 #[.val (.long q0), .second, .val (.int q1), .val (.int q2), .val (.int v9_4), .val (.long v19_5), .second, .val (.long v29_7), .second, .val (.long v40_9), .second, .val (.int v56_11), .unset, .unset] [(.long (100 : Int64)), (.long v40_9), (.long ((v40_9 * (365 : Int64)) + (v40_9 / (4 : Int64))))]))
    refine own_by (fun _ k => XS.ldiv X.here hx rfl (hb hby d4_74) rfl (by decide) k) ?_
    show OEnds p e below s _ _ _ (T.setTop (mkF m 75 #[.val (.long q0), .second, .val (.int q1), .val (.int q2), .val (.int v9_4), .val (.long v19_5), .second, .val (.long v29_7), .second, .val (.long v40_9), .second, .val (.int v56_11), .unset, .unset] [(.long (v40_9 / (100 : Int64))), (.long ((v40_9 * (365 : Int64)) + (v40_9 / (4 : Int64))))]))
    refine own_by (fun _ k => XS.lsub X.here hx rfl (hb hby d4_75) rfl k) ?_
    show OEnds p e below s _ _ _ (T.setTop (mkF m 76 #[.val (.long q0), .second, .val (.int q1), .val (.int q2), .val (.int v9_4), .val (.long v19_5), .second, .val (.long v29_7), .second, .val (.long v40_9), .second, .val (.int v56_11), .unset, .unset] [(.long (((v40_9 * (365 : Int64)) + (v40_9 / (4 : Int64))) - (v40_9 / (100 : Int64))))]))
    refine own_by (fun _ k => XS.iload X.here hx rfl (hb hby d4_76) rfl k) ?_
    show OEnds p e below s _ _ _ (T.setTop (mkF m 78 #[.val (.long q0), .second, .val (.int q1), .val (.int q2), .val (.int v9_4), .val (.long v19_5), .second, .val (.long v29_7), .second, .val (.long v40_9), .second, .val (.int v56_11), .unset, .unset] [(.int v56_11), (.long (((v40_9 * (365 : Int64)) + (v40_9 / (4 : Int64))) - (v40_9 / (100 : Int64))))]))
    refine own_by (fun _ k => XS.i2l X.here hx rfl (hb hby d4_78) rfl k) ?_
    show OEnds p e below s _ _ _ (T.setTop (mkF m 79 #[.val (.long q0), .second, .val (.int q1), .val (.int q2), .val (.int v9_4), .val (.long v19_5), .second, .val (.long v29_7), .second, .val (.long v40_9), .second, .val (.int v56_11), .unset, .unset] [(.long (v56_11.toInt64)), (.long (((v40_9 * (365 : Int64)) + (v40_9 / (4 : Int64))) - (v40_9 / (100 : Int64))))]))
    refine own_by (fun _ k => XS.ladd X.here hx rfl (hb hby d4_79) rfl k) ?_
    show OEnds p e below s _ _ _ (T.setTop (mkF m 80 #[.val (.long q0), .second, .val (.int q1), .val (.int q2), .val (.int v9_4), .val (.long v19_5), .second, .val (.long v29_7), .second, .val (.long v40_9), .second, .val (.int v56_11), .unset, .unset] [(.long ((((v40_9 * (365 : Int64)) + (v40_9 / (4 : Int64))) - (v40_9 / (100 : Int64))) + (v56_11.toInt64)))]))
    refine own_by (fun _ k => XS.lstore X.here hx rfl (hb hby d4_80) rfl (l' := #[.val (.long q0), .second, .val (.int q1), .val (.int q2), .val (.int v9_4), .val (.long v19_5), .second, .val (.long v29_7), .second, .val (.long v40_9), .second, .val (.int v56_11), .val (.long ((((v40_9 * (365 : Int64)) + (v40_9 / (4 : Int64))) - (v40_9 / (100 : Int64))) + (v56_11.toInt64))), .second]) rfl k) ?_
    show OEnds p e below s _ _ _ (T.setTop (mkF m 82 #[.val (.long q0), .second, .val (.int q1), .val (.int q2), .val (.int v9_4), .val (.long v19_5), .second, .val (.long v29_7), .second, .val (.long v40_9), .second, .val (.int v56_11), .val (.long ((((v40_9 * (365 : Int64)) + (v40_9 / (4 : Int64))) - (v40_9 / (100 : Int64))) + (v56_11.toInt64))), .second] []))
    exact own_eq (congrArg Value.long (by rw [epof_56] <;> rfl)) (bepof_82 T X eT v9_4 v19_5 v29_7 v40_9 v56_11 ((((v40_9 * (365 : Int64)) + (v40_9 / (4 : Int64))) - (v40_9 / (100 : Int64))) + (v56_11.toInt64)))
  have bepof_40 : ∀ (T : State) (X : Stand p l e ({ frames := 2, cells := 0, slots := 0, locals := 31 } : Room) s m #[(.long q0), (.int q1), (.int q2)] below meth c T [] 0 0) (eT : T.heap = h0) (v9_4 : Int32) (v19_5 : Int64) (v29_7 : Int64) (v40_9 : Int64), OEnds p e below s (QP (Value.long (epof_40 q2 v9_4 v29_7 v40_9)) h0) 0 0 (T.setTop (mkF m 40 #[.val (.long q0), .second, .val (.int q1), .val (.int q2), .val (.int v9_4), .val (.long v19_5), .second, .val (.long v29_7), .second, .val (.long v40_9), .second, .unset, .unset, .unset] [])) := by
    intro T X eT v9_4 v19_5 v29_7 v40_9
    refine own_by (fun _ k => XS.sipush X.here hx rfl (hb hby d4_40) k) ?_
    show OEnds p e below s _ _ _ (T.setTop (mkF m 43 #[.val (.long q0), .second, .val (.int q1), .val (.int q2), .val (.int v9_4), .val (.long v19_5), .second, .val (.long v29_7), .second, .val (.long v40_9), .second, .unset, .unset, .unset] [(.int (153 : Int32))]))
    refine own_by (fun _ k => XS.iload X.here hx rfl (hb hby d4_43) rfl k) ?_
    show OEnds p e below s _ _ _ (T.setTop (mkF m 45 #[.val (.long q0), .second, .val (.int q1), .val (.int q2), .val (.int v9_4), .val (.long v19_5), .second, .val (.long v29_7), .second, .val (.long v40_9), .second, .unset, .unset, .unset] [(.int v9_4), (.int (153 : Int32))]))
    refine own_by (fun _ k => XS.imul X.here hx rfl (hb hby d4_45) rfl k) ?_
    show OEnds p e below s _ _ _ (T.setTop (mkF m 46 #[.val (.long q0), .second, .val (.int q1), .val (.int q2), .val (.int v9_4), .val (.long v19_5), .second, .val (.long v29_7), .second, .val (.long v40_9), .second, .unset, .unset, .unset] [(.int ((153 : Int32) * v9_4))]))
    refine own_by (fun _ k => XS.iconst X.here hx rfl (hb hby d4_46) k) ?_
    show OEnds p e below s _ _ _ (T.setTop (mkF m 47 #[.val (.long q0), .second, .val (.int q1), .val (.int q2), .val (.int v9_4), .val (.long v19_5), .second, .val (.long v29_7), .second, .val (.long v40_9), .second, .unset, .unset, .unset] [(.int (2 : Int32)), (.int ((153 : Int32) * v9_4))]))
    refine own_by (fun _ k => XS.iadd X.here hx rfl (hb hby d4_47) rfl k) ?_
    show OEnds p e below s _ _ _ (T.setTop (mkF m 48 #[.val (.long q0), .second, .val (.int q1), .val (.int q2), .val (.int v9_4), .val (.long v19_5), .second, .val (.long v29_7), .second, .val (.long v40_9), .second, .unset, .unset, .unset] [(.int (((153 : Int32) * v9_4) + (2 : Int32)))]))
    refine own_by (fun _ k => XS.iconst X.here hx rfl (hb hby d4_48) k) ?_
    show OEnds p e below s _ _ _ (T.setTop (mkF m 49 #[.val (.long q0), .second, .val (.int q1), .val (.int q2), .val (.int v9_4), .val (.long v19_5), .second, .val (.long v29_7), .second, .val (.long v40_9), .second, .unset, .unset, .unset] [(.int (5 : Int32)), (.int (((153 : Int32) * v9_4) + (2 : Int32)))]))
    refine own_by (fun _ k => XS.idiv X.here hx rfl (hb hby d4_49) rfl (by decide) k) ?_
    show OEnds p e below s _ _ _ (T.setTop (mkF m 50 #[.val (.long q0), .second, .val (.int q1), .val (.int q2), .val (.int v9_4), .val (.long v19_5), .second, .val (.long v29_7), .second, .val (.long v40_9), .second, .unset, .unset, .unset] [(.int ((((153 : Int32) * v9_4) + (2 : Int32)) / (5 : Int32)))]))
    refine own_by (fun _ k => XS.iloadN X.here hx rfl (hb hby d4_50) rfl k) ?_
    show OEnds p e below s _ _ _ (T.setTop (mkF m 51 #[.val (.long q0), .second, .val (.int q1), .val (.int q2), .val (.int v9_4), .val (.long v19_5), .second, .val (.long v29_7), .second, .val (.long v40_9), .second, .unset, .unset, .unset] [(.int q2), (.int ((((153 : Int32) * v9_4) + (2 : Int32)) / (5 : Int32)))]))
    refine own_by (fun _ k => XS.iadd X.here hx rfl (hb hby d4_51) rfl k) ?_
    show OEnds p e below s _ _ _ (T.setTop (mkF m 52 #[.val (.long q0), .second, .val (.int q1), .val (.int q2), .val (.int v9_4), .val (.long v19_5), .second, .val (.long v29_7), .second, .val (.long v40_9), .second, .unset, .unset, .unset] [(.int (((((153 : Int32) * v9_4) + (2 : Int32)) / (5 : Int32)) + q2))]))
    refine own_by (fun _ k => XS.iconst X.here hx rfl (hb hby d4_52) k) ?_
    show OEnds p e below s _ _ _ (T.setTop (mkF m 53 #[.val (.long q0), .second, .val (.int q1), .val (.int q2), .val (.int v9_4), .val (.long v19_5), .second, .val (.long v29_7), .second, .val (.long v40_9), .second, .unset, .unset, .unset] [(.int (1 : Int32)), (.int (((((153 : Int32) * v9_4) + (2 : Int32)) / (5 : Int32)) + q2))]))
    refine own_by (fun _ k => XS.isub X.here hx rfl (hb hby d4_53) rfl k) ?_
    show OEnds p e below s _ _ _ (T.setTop (mkF m 54 #[.val (.long q0), .second, .val (.int q1), .val (.int q2), .val (.int v9_4), .val (.long v19_5), .second, .val (.long v29_7), .second, .val (.long v40_9), .second, .unset, .unset, .unset] [(.int ((((((153 : Int32) * v9_4) + (2 : Int32)) / (5 : Int32)) + q2) - (1 : Int32)))]))
    refine own_by (fun _ k => XS.istore X.here hx rfl (hb hby d4_54) rfl (l' := #[.val (.long q0), .second, .val (.int q1), .val (.int q2), .val (.int v9_4), .val (.long v19_5), .second, .val (.long v29_7), .second, .val (.long v40_9), .second, .val (.int ((((((153 : Int32) * v9_4) + (2 : Int32)) / (5 : Int32)) + q2) - (1 : Int32))), .unset, .unset]) rfl k) ?_
    show OEnds p e below s _ _ _ (T.setTop (mkF m 56 #[.val (.long q0), .second, .val (.int q1), .val (.int q2), .val (.int v9_4), .val (.long v19_5), .second, .val (.long v29_7), .second, .val (.long v40_9), .second, .val (.int ((((((153 : Int32) * v9_4) + (2 : Int32)) / (5 : Int32)) + q2) - (1 : Int32))), .unset, .unset] []))
    exact own_eq (congrArg Value.long (by rw [epof_40] <;> rfl)) (bepof_56 T X eT v9_4 v19_5 v29_7 v40_9 ((((((153 : Int32) * v9_4) + (2 : Int32)) / (5 : Int32)) + q2) - (1 : Int32)))
  have bepof_29 : ∀ (T : State) (X : Stand p l e ({ frames := 2, cells := 0, slots := 0, locals := 31 } : Room) s m #[(.long q0), (.int q1), (.int q2)] below meth c T [] 0 0) (eT : T.heap = h0) (v9_4 : Int32) (v19_5 : Int64) (v29_7 : Int64), OEnds p e below s (QP (Value.long (epof_29 q2 v9_4 v19_5 v29_7)) h0) 0 0 (T.setTop (mkF m 29 #[.val (.long q0), .second, .val (.int q1), .val (.int q2), .val (.int v9_4), .val (.long v19_5), .second, .val (.long v29_7), .second, .unset, .unset, .unset, .unset, .unset] [])) := by
    intro T X eT v9_4 v19_5 v29_7
    refine own_by (fun _ k => XS.lload X.here hx rfl (hb hby d4_29) rfl k) ?_
    show OEnds p e below s _ _ _ (T.setTop (mkF m 31 #[.val (.long q0), .second, .val (.int q1), .val (.int q2), .val (.int v9_4), .val (.long v19_5), .second, .val (.long v29_7), .second, .unset, .unset, .unset, .unset, .unset] [(.long v19_5)]))
    refine own_by (fun _ k => XS.lload X.here hx rfl (hb hby d4_31) rfl k) ?_
    show OEnds p e below s _ _ _ (T.setTop (mkF m 33 #[.val (.long q0), .second, .val (.int q1), .val (.int q2), .val (.int v9_4), .val (.long v19_5), .second, .val (.long v29_7), .second, .unset, .unset, .unset, .unset, .unset] [(.long v29_7), (.long v19_5)]))
    refine own_by (X.ldc2Long hx hown (mvT hZ (hw _ (List.mem_of_getElem? (i := 29) rfl))) (g := (mkF m 33 #[.val (.long q0), .second, .val (.int q1), .val (.int q2), .val (.int v9_4), .val (.long v19_5), .second, .val (.long v29_7), .second, .unset, .unset, .unset, .unset, .unset] [(.long v29_7), (.long v19_5)])) rfl (hb hby d4_33)) ?_
    show OEnds p e below s _ _ _ (T.setTop (mkF m 36 #[.val (.long q0), .second, .val (.int q1), .val (.int q2), .val (.int v9_4), .val (.long v19_5), .second, .val (.long v29_7), .second, .unset, .unset, .unset, .unset, .unset] [(.long (400 : Int64)), (.long v29_7), (.long v19_5)]))
    refine own_by (fun _ k => XS.lmul X.here hx rfl (hb hby d4_36) rfl k) ?_
    show OEnds p e below s _ _ _ (T.setTop (mkF m 37 #[.val (.long q0), .second, .val (.int q1), .val (.int q2), .val (.int v9_4), .val (.long v19_5), .second, .val (.long v29_7), .second, .unset, .unset, .unset, .unset, .unset] [(.long (v29_7 * (400 : Int64))), (.long v19_5)]))
    refine own_by (fun _ k => XS.lsub X.here hx rfl (hb hby d4_37) rfl k) ?_
    show OEnds p e below s _ _ _ (T.setTop (mkF m 38 #[.val (.long q0), .second, .val (.int q1), .val (.int q2), .val (.int v9_4), .val (.long v19_5), .second, .val (.long v29_7), .second, .unset, .unset, .unset, .unset, .unset] [(.long (v19_5 - (v29_7 * (400 : Int64))))]))
    refine own_by (fun _ k => XS.lstore X.here hx rfl (hb hby d4_38) rfl (l' := #[.val (.long q0), .second, .val (.int q1), .val (.int q2), .val (.int v9_4), .val (.long v19_5), .second, .val (.long v29_7), .second, .val (.long (v19_5 - (v29_7 * (400 : Int64)))), .second, .unset, .unset, .unset]) rfl k) ?_
    show OEnds p e below s _ _ _ (T.setTop (mkF m 40 #[.val (.long q0), .second, .val (.int q1), .val (.int q2), .val (.int v9_4), .val (.long v19_5), .second, .val (.long v29_7), .second, .val (.long (v19_5 - (v29_7 * (400 : Int64)))), .second, .unset, .unset, .unset] []))
    exact own_eq (congrArg Value.long (by rw [epof_29] <;> rfl)) (bepof_40 T X eT v9_4 v19_5 v29_7 (v19_5 - (v29_7 * (400 : Int64))))
  have bepof_19 : ∀ (T : State) (X : Stand p l e ({ frames := 2, cells := 0, slots := 0, locals := 31 } : Room) s m #[(.long q0), (.int q1), (.int q2)] below meth c T [] 0 0) (eT : T.heap = h0) (v9_4 : Int32) (v19_5 : Int64), OEnds p e below s (QP (Value.long (epof_19 q2 v9_4 v19_5)) h0) 0 0 (T.setTop (mkF m 19 #[.val (.long q0), .second, .val (.int q1), .val (.int q2), .val (.int v9_4), .val (.long v19_5), .second, .unset, .unset, .unset, .unset, .unset, .unset, .unset] [])) := by
    intro T X eT v9_4 v19_5
    refine own_by (fun _ k => XS.lload X.here hx rfl (hb hby d4_19) rfl k) ?_
    show OEnds p e below s _ _ _ (T.setTop (mkF m 21 #[.val (.long q0), .second, .val (.int q1), .val (.int q2), .val (.int v9_4), .val (.long v19_5), .second, .unset, .unset, .unset, .unset, .unset, .unset, .unset] [(.long v19_5)]))
    refine own_by (fun _ k => XS.sipush X.here hx rfl (hb hby d4_21) k) ?_
    show OEnds p e below s _ _ _ (T.setTop (mkF m 24 #[.val (.long q0), .second, .val (.int q1), .val (.int q2), .val (.int v9_4), .val (.long v19_5), .second, .unset, .unset, .unset, .unset, .unset, .unset, .unset] [(.int (400 : Int32)), (.long v19_5)]))
    obtain ⟨T2, X2, e2, st2⟩ := own_callP X hx hZ (y := (⟨"java/lang/Math", "floorDiv", "(JI)J"⟩ : MethodName)) hown (hw _ (List.mem_of_getElem? (i := 22) rfl)) (hw _ (List.mem_of_getElem? (i := 23) rfl)) (hw _ (List.mem_of_getElem? (i := 24) rfl)) (hw _ (List.mem_of_getElem? (i := 25) rfl)) (by decide) (rm_fdivI l Z a0 hw [] v19_5 (400 : Int32) h0 (by decide)) eT (g := (mkF m 24 #[.val (.long q0), .second, .val (.int q1), .val (.int q2), .val (.int v9_4), .val (.long v19_5), .second, .unset, .unset, .unset, .unset, .unset, .unset, .unset] [(.int (400 : Int32)), (.long v19_5)])) rfl (by rw [hml]; rfl) (argsL := [(.long v19_5), (.int (400 : Int32))]) (rest := []) (lenOf pd_pJIrJ rfl) rfl (W := 0) (by show 2 * 0 + _ ≤ _; exact Nat.le_of_eq rfl) (hb hby d4_24) (by decide) (by decide) (by decide) (by decide)
    refine own_by st2 ?_
    show OEnds p e below s _ _ _ (T2.setTop (mkF m 27 #[.val (.long q0), .second, .val (.int q1), .val (.int q2), .val (.int v9_4), .val (.long v19_5), .second, .unset, .unset, .unset, .unset, .unset, .unset, .unset] [(.long (fdivI v19_5 (400 : Int32)))]))
    refine own_by (fun _ k => XS.lstore X2.here hx rfl (hb hby d4_27) rfl (l' := #[.val (.long q0), .second, .val (.int q1), .val (.int q2), .val (.int v9_4), .val (.long v19_5), .second, .val (.long (fdivI v19_5 (400 : Int32))), .second, .unset, .unset, .unset, .unset, .unset]) rfl k) ?_
    show OEnds p e below s _ _ _ (T2.setTop (mkF m 29 #[.val (.long q0), .second, .val (.int q1), .val (.int q2), .val (.int v9_4), .val (.long v19_5), .second, .val (.long (fdivI v19_5 (400 : Int32))), .second, .unset, .unset, .unset, .unset, .unset] []))
    exact own_eq (congrArg Value.long (by rw [epof_19] <;> rfl)) (bepof_29 T2 X2 e2 v9_4 v19_5 (fdivI v19_5 (400 : Int32)))
  have bepof_9 : ∀ (T : State) (X : Stand p l e ({ frames := 2, cells := 0, slots := 0, locals := 31 } : Room) s m #[(.long q0), (.int q1), (.int q2)] below meth c T [] 0 0) (eT : T.heap = h0) (v9_4 : Int32), OEnds p e below s (QP (Value.long (epof_9 q0 q2 v9_4)) h0) 0 0 (T.setTop (mkF m 9 #[.val (.long q0), .second, .val (.int q1), .val (.int q2), .val (.int v9_4), .unset, .unset, .unset, .unset, .unset, .unset, .unset, .unset, .unset] [])) := by
    intro T X eT v9_4
    refine own_by (fun _ k => XS.lloadN X.here hx rfl (hb hby d4_9) rfl k) ?_
    show OEnds p e below s _ _ _ (T.setTop (mkF m 10 #[.val (.long q0), .second, .val (.int q1), .val (.int q2), .val (.int v9_4), .unset, .unset, .unset, .unset, .unset, .unset, .unset, .unset, .unset] [(.long q0)]))
    refine own_by (fun _ k => XS.iload X.here hx rfl (hb hby d4_10) rfl k) ?_
    show OEnds p e below s _ _ _ (T.setTop (mkF m 12 #[.val (.long q0), .second, .val (.int q1), .val (.int q2), .val (.int v9_4), .unset, .unset, .unset, .unset, .unset, .unset, .unset, .unset, .unset] [(.int v9_4), (.long q0)]))
    refine own_by (fun _ k => XS.bipush X.here hx rfl (hb hby d4_12) k) ?_
    show OEnds p e below s _ _ _ (T.setTop (mkF m 14 #[.val (.long q0), .second, .val (.int q1), .val (.int q2), .val (.int v9_4), .unset, .unset, .unset, .unset, .unset, .unset, .unset, .unset, .unset] [(.int (10 : Int32)), (.int v9_4), (.long q0)]))
    refine own_by (fun _ k => XS.idiv X.here hx rfl (hb hby d4_14) rfl (by decide) k) ?_
    show OEnds p e below s _ _ _ (T.setTop (mkF m 15 #[.val (.long q0), .second, .val (.int q1), .val (.int q2), .val (.int v9_4), .unset, .unset, .unset, .unset, .unset, .unset, .unset, .unset, .unset] [(.int (v9_4 / (10 : Int32))), (.long q0)]))
    refine own_by (fun _ k => XS.i2l X.here hx rfl (hb hby d4_15) rfl k) ?_
    show OEnds p e below s _ _ _ (T.setTop (mkF m 16 #[.val (.long q0), .second, .val (.int q1), .val (.int q2), .val (.int v9_4), .unset, .unset, .unset, .unset, .unset, .unset, .unset, .unset, .unset] [(.long ((v9_4 / (10 : Int32)).toInt64)), (.long q0)]))
    refine own_by (fun _ k => XS.lsub X.here hx rfl (hb hby d4_16) rfl k) ?_
    show OEnds p e below s _ _ _ (T.setTop (mkF m 17 #[.val (.long q0), .second, .val (.int q1), .val (.int q2), .val (.int v9_4), .unset, .unset, .unset, .unset, .unset, .unset, .unset, .unset, .unset] [(.long (q0 - ((v9_4 / (10 : Int32)).toInt64)))]))
    refine own_by (fun _ k => XS.lstore X.here hx rfl (hb hby d4_17) rfl (l' := #[.val (.long q0), .second, .val (.int q1), .val (.int q2), .val (.int v9_4), .val (.long (q0 - ((v9_4 / (10 : Int32)).toInt64))), .second, .unset, .unset, .unset, .unset, .unset, .unset, .unset]) rfl k) ?_
    show OEnds p e below s _ _ _ (T.setTop (mkF m 19 #[.val (.long q0), .second, .val (.int q1), .val (.int q2), .val (.int v9_4), .val (.long (q0 - ((v9_4 / (10 : Int32)).toInt64))), .second, .unset, .unset, .unset, .unset, .unset, .unset, .unset] []))
    exact own_eq (congrArg Value.long (by rw [epof_9] <;> rfl)) (bepof_19 T X eT v9_4 (q0 - ((v9_4 / (10 : Int32)).toInt64)))
  show OEnds p e below s _ _ _ _
  refine own_by (fun t k => castTop (ef_4 m q0 q1 q2) k) ?_
  show OEnds p e below s _ _ _ (s₁.setTop (mkF m 0 #[.val (.long q0), .second, .val (.int q1), .val (.int q2), .unset, .unset, .unset, .unset, .unset, .unset, .unset, .unset, .unset, .unset] []))
  refine own_by (fun _ k => XS.iloadN X0.here hx rfl (hb hby d4_0) rfl k) ?_
  show OEnds p e below s _ _ _ (s₁.setTop (mkF m 1 #[.val (.long q0), .second, .val (.int q1), .val (.int q2), .unset, .unset, .unset, .unset, .unset, .unset, .unset, .unset, .unset, .unset] [(.int q1)]))
  refine own_by (fun _ k => XS.bipush X0.here hx rfl (hb hby d4_1) k) ?_
  show OEnds p e below s _ _ _ (s₁.setTop (mkF m 3 #[.val (.long q0), .second, .val (.int q1), .val (.int q2), .unset, .unset, .unset, .unset, .unset, .unset, .unset, .unset, .unset, .unset] [(.int (9 : Int32)), (.int q1)]))
  refine own_by (fun _ k => XS.iadd X0.here hx rfl (hb hby d4_3) rfl k) ?_
  show OEnds p e below s _ _ _ (s₁.setTop (mkF m 4 #[.val (.long q0), .second, .val (.int q1), .val (.int q2), .unset, .unset, .unset, .unset, .unset, .unset, .unset, .unset, .unset, .unset] [(.int (q1 + (9 : Int32)))]))
  refine own_by (fun _ k => XS.bipush X0.here hx rfl (hb hby d4_4) k) ?_
  show OEnds p e below s _ _ _ (s₁.setTop (mkF m 6 #[.val (.long q0), .second, .val (.int q1), .val (.int q2), .unset, .unset, .unset, .unset, .unset, .unset, .unset, .unset, .unset, .unset] [(.int (12 : Int32)), (.int (q1 + (9 : Int32)))]))
  refine own_by (fun _ k => iremM X0 hx rfl (hb hby d4_6) rfl (by decide) k) ?_
  show OEnds p e below s _ _ _ (s₁.setTop (mkF m 7 #[.val (.long q0), .second, .val (.int q1), .val (.int q2), .unset, .unset, .unset, .unset, .unset, .unset, .unset, .unset, .unset, .unset] [(.int ((q1 + (9 : Int32)) % (12 : Int32)))]))
  refine own_by (fun _ k => XS.istore X0.here hx rfl (hb hby d4_7) rfl (l' := #[.val (.long q0), .second, .val (.int q1), .val (.int q2), .val (.int ((q1 + (9 : Int32)) % (12 : Int32))), .unset, .unset, .unset, .unset, .unset, .unset, .unset, .unset, .unset]) rfl k) ?_
  show OEnds p e below s _ _ _ (s₁.setTop (mkF m 9 #[.val (.long q0), .second, .val (.int q1), .val (.int q2), .val (.int ((q1 + (9 : Int32)) % (12 : Int32))), .unset, .unset, .unset, .unset, .unset, .unset, .unset, .unset, .unset] []))
  exact own_eq (congrArg Value.long (by rw [epof] <;> rfl)) (bepof_9 s₁ X0 e0 ((q1 + (9 : Int32)) % (12 : Int32)))
theorem d2_0 : decode method_2_code 0 = .ok (.lload_n 0, 1) := by decide +kernel
theorem d2_1 : decode method_2_code 1 = .ok (.lload_n 2, 1) := by decide +kernel
theorem d2_2 : decode method_2_code 2 = .ok (.ldiv, 1) := by decide +kernel
theorem d2_3 : decode method_2_code 3 = .ok (.lstore 4, 2) := by decide +kernel
theorem d2_5 : decode method_2_code 5 = .ok (.lload_n 0, 1) := by decide +kernel
theorem d2_6 : decode method_2_code 6 = .ok (.lload_n 2, 1) := by decide +kernel
theorem d2_7 : decode method_2_code 7 = .ok (.lrem, 1) := by decide +kernel
theorem d2_8 : decode method_2_code 8 = .ok (.lconst 0, 1) := by decide +kernel
theorem d2_9 : decode method_2_code 9 = .ok (.lcmp, 1) := by decide +kernel
theorem d2_10 : decode method_2_code 10 = .ok (.ifCond .eq 15, 3) := by decide +kernel
theorem d2_13 : decode method_2_code 13 = .ok (.lload_n 0, 1) := by decide +kernel
theorem d2_14 : decode method_2_code 14 = .ok (.lconst 0, 1) := by decide +kernel
theorem d2_15 : decode method_2_code 15 = .ok (.lcmp, 1) := by decide +kernel
theorem d2_16 : decode method_2_code 16 = .ok (.ifCond .ge 9, 3) := by decide +kernel
theorem d2_19 : decode method_2_code 19 = .ok (.lload 4, 2) := by decide +kernel
theorem d2_21 : decode method_2_code 21 = .ok (.lconst 1, 1) := by decide +kernel
theorem d2_22 : decode method_2_code 22 = .ok (.lsub, 1) := by decide +kernel
theorem d2_23 : decode method_2_code 23 = .ok (.lstore 4, 2) := by decide +kernel
theorem d2_25 : decode method_2_code 25 = .ok (.lload 4, 2) := by decide +kernel
theorem d2_27 : decode method_2_code 27 = .ok (.lreturn, 1) := by decide +kernel
theorem pn_2 : plainName "com/example/exact_membership/exactmembership/model/EpochDaysOfPinLaw" = true := by first | (simp [plainName, overriddenIn]; done) | decide +kernel
theorem ef_2 (m : MethodId) (q0 : Int64) (q1 : Int64) : entryFrame m #[(.long q0), (.long q1)] 6 = mkF m 0 #[.val (.long q0), .second, .val (.long q1), .second, .unset, .unset] [] := by first | (simp [entryFrame, mkF, argsToLocals, Value.category]; done) | rfl
def lfdiv_25 (v25_4 : Int64) : Int64 := v25_4
def lfdiv (q0 : Int64) (q1 : Int64) : Int64 := if (q0 % q1) = (0 : Int64) then (lfdiv_25 (q0 / q1)) else if q0 < (0 : Int64) then (lfdiv_25 ((q0 / q1) - (1 : Int64))) else (lfdiv_25 (q0 / q1))
set_option maxRecDepth 65536 in
set_option maxHeartbeats 40000000 in
theorem rm_lfdiv (l : Launch) (Z : State) (a0 : Array Value) (hw : ∀ d ∈ tables_1, d.before a0 Z = true) (ws : List Jvm.Cond) (q0 : Int64) (q1 : Int64) (h0 : Heap) (hnz_q1 : q1 ≠ 0) :
    MetFree l (⟨"com/example/exact_membership/exactmembership/model/EpochDaysOfPinLaw", "fdiv", "(JJ)J"⟩ : MethodName) (head1 (Jvm.Cond.code (⟨"com/example/exact_membership/exactmembership/model/EpochDaysOfPinLaw", "fdiv", "(JJ)J"⟩ : MethodName) method_2_code 6 (some .long) :: ws) ({ frames := 0, cells := 0, slots := 0, locals := 0 } : Room)) (fun a U => a = #[(.long q0), (.long q1)] ∧ Z.Warmed39 U.vm ∧ U.heap = h0) (fun _ _ _ _ _ => True) (fun _ U o U' => ∃ v L, o = .returned v ∧ QP (Value.long (lfdiv q0 q1)) h0 v U'.heap L ∧ FrameEnd U o U' L 0 0) := by
  refine MetFree.of_bodySF (plainFor_of_name pn_2) hisR ?_
  intro p e s m args below meth c s₁ Bd hml0 hP hK
  obtain ⟨rfl, hZ, hh⟩ := hP
  have hx := Bd.exec
  have hby := Bd.bytes
  have hlk : meth.locks = false := Bd.notSynchronized
  have hml : c.maxLocals = 6 := hml0
  have hown : s.vm.findClass "com/example/exact_membership/exactmembership/model/EpochDaysOfPinLaw" = some m.cls := findClass_of_methodNamed Bd.named
  have X0 : Stand p l e ({ frames := 0, cells := 0, slots := 0, locals := 0 } : Room) s m #[(.long q0), (.long q1)] below meth c s₁ [] 0 0 := Stand.of_body Bd
  have e0 : s₁.heap = h0 := by rw [← hh, Bd.state]; rfl
  have blfdiv_25 : ∀ (T : State) (X : Stand p l e ({ frames := 0, cells := 0, slots := 0, locals := 0 } : Room) s m #[(.long q0), (.long q1)] below meth c T [] 0 0) (eT : T.heap = h0) (v25_4 : Int64), OEnds p e below s (QP (Value.long (lfdiv_25 v25_4)) h0) 0 0 (T.setTop (mkF m 25 #[.val (.long q0), .second, .val (.long q1), .second, .val (.long v25_4), .second] [])) := by
    intro T X eT v25_4
    refine own_by (fun _ k => XS.lload X.here hx rfl (hb hby d2_25) rfl k) ?_
    show OEnds p e below s _ _ _ (T.setTop (mkF m 27 #[.val (.long q0), .second, .val (.long q1), .second, .val (.long v25_4), .second] [(.long v25_4)]))
    exact own_retJ X hx hlk Bd.returns (hb hby d2_27) ⟨congrArg (fun z => some (Value.long z)) (Eq.symm (by rw [lfdiv_25] <;> rfl)), rfl, eT⟩ (Nat.le_refl _) (Nat.le_refl _)
  show OEnds p e below s _ _ _ _
  refine own_by (fun t k => castTop (ef_2 m q0 q1) k) ?_
  show OEnds p e below s _ _ _ (s₁.setTop (mkF m 0 #[.val (.long q0), .second, .val (.long q1), .second, .unset, .unset] []))
  refine own_by (fun _ k => XS.lloadN X0.here hx rfl (hb hby d2_0) rfl k) ?_
  show OEnds p e below s _ _ _ (s₁.setTop (mkF m 1 #[.val (.long q0), .second, .val (.long q1), .second, .unset, .unset] [(.long q0)]))
  refine own_by (fun _ k => XS.lloadN X0.here hx rfl (hb hby d2_1) rfl k) ?_
  show OEnds p e below s _ _ _ (s₁.setTop (mkF m 2 #[.val (.long q0), .second, .val (.long q1), .second, .unset, .unset] [(.long q1), (.long q0)]))
  refine own_by (fun _ k => XS.ldiv X0.here hx rfl (hb hby d2_2) rfl hnz_q1 k) ?_
  show OEnds p e below s _ _ _ (s₁.setTop (mkF m 3 #[.val (.long q0), .second, .val (.long q1), .second, .unset, .unset] [(.long (q0 / q1))]))
  refine own_by (fun _ k => XS.lstore X0.here hx rfl (hb hby d2_3) rfl (l' := #[.val (.long q0), .second, .val (.long q1), .second, .val (.long (q0 / q1)), .second]) rfl k) ?_
  show OEnds p e below s _ _ _ (s₁.setTop (mkF m 5 #[.val (.long q0), .second, .val (.long q1), .second, .val (.long (q0 / q1)), .second] []))
  refine own_by (fun _ k => XS.lloadN X0.here hx rfl (hb hby d2_5) rfl k) ?_
  show OEnds p e below s _ _ _ (s₁.setTop (mkF m 6 #[.val (.long q0), .second, .val (.long q1), .second, .val (.long (q0 / q1)), .second] [(.long q0)]))
  refine own_by (fun _ k => XS.lloadN X0.here hx rfl (hb hby d2_6) rfl k) ?_
  show OEnds p e below s _ _ _ (s₁.setTop (mkF m 7 #[.val (.long q0), .second, .val (.long q1), .second, .val (.long (q0 / q1)), .second] [(.long q1), (.long q0)]))
  refine own_by (fun _ k => own_lrem X0 hx rfl (hb hby d2_7) rfl hnz_q1 k) ?_
  show OEnds p e below s _ _ _ (s₁.setTop (mkF m 8 #[.val (.long q0), .second, .val (.long q1), .second, .val (.long (q0 / q1)), .second] [(.long (q0 % q1))]))
  refine own_by (fun _ k => XS.lconst X0.here hx rfl (hb hby d2_8) k) ?_
  show OEnds p e below s _ _ _ (s₁.setTop (mkF m 9 #[.val (.long q0), .second, .val (.long q1), .second, .val (.long (q0 / q1)), .second] [(.long (0 : Int64)), (.long (q0 % q1))]))
  refine own_by (fun _ k => XS.lcmp X0.here hx rfl (hb hby d2_9) rfl k) ?_
  show OEnds p e below s _ _ _ (s₁.setTop (mkF m 10 #[.val (.long q0), .second, .val (.long q1), .second, .val (.long (q0 / q1)), .second] [(.int (lcmpW (q0 % q1) (0 : Int64)))]))
  by_cases hc10 : (q0 % q1) = (0 : Int64)
  · refine own_by (fun _ k => XS.ifYes X0.here hx rfl (pc0 := 10) (pc' := 25) rfl (hb hby d2_10) rfl ((if0 _ _).trans (teq ((lw_eq _ _).mpr hc10)).1) (by decide) (by decide) k) ?_
    show OEnds p e below s _ _ _ (s₁.setTop (mkF m 25 #[.val (.long q0), .second, .val (.long q1), .second, .val (.long (q0 / q1)), .second] []))
    exact own_eq (congrArg Value.long (by rw [lfdiv, if_pos hc10] <;> rfl)) (blfdiv_25 s₁ X0 e0 (q0 / q1))
  · refine own_by (fun _ k => XS.ifNo X0.here hx rfl (hb hby d2_10) rfl ((if0 _ _).trans (feq (fun q => hc10 ((lw_eq _ _).mp q))).1) k) ?_
    show OEnds p e below s _ _ _ (s₁.setTop (mkF m 13 #[.val (.long q0), .second, .val (.long q1), .second, .val (.long (q0 / q1)), .second] []))
    refine own_by (fun _ k => XS.lloadN X0.here hx rfl (hb hby d2_13) rfl k) ?_
    show OEnds p e below s _ _ _ (s₁.setTop (mkF m 14 #[.val (.long q0), .second, .val (.long q1), .second, .val (.long (q0 / q1)), .second] [(.long q0)]))
    refine own_by (fun _ k => XS.lconst X0.here hx rfl (hb hby d2_14) k) ?_
    show OEnds p e below s _ _ _ (s₁.setTop (mkF m 15 #[.val (.long q0), .second, .val (.long q1), .second, .val (.long (q0 / q1)), .second] [(.long (0 : Int64)), (.long q0)]))
    refine own_by (fun _ k => XS.lcmp X0.here hx rfl (hb hby d2_15) rfl k) ?_
    show OEnds p e below s _ _ _ (s₁.setTop (mkF m 16 #[.val (.long q0), .second, .val (.long q1), .second, .val (.long (q0 / q1)), .second] [(.int (lcmpW q0 (0 : Int64)))]))
    by_cases hc16 : q0 < (0 : Int64)
    · refine own_by (fun _ k => XS.ifNo X0.here hx rfl (hb hby d2_16) rfl ((if0 _ _).trans (tlt ((lw_lt _ _).mpr hc16)).2.1) k) ?_
      show OEnds p e below s _ _ _ (s₁.setTop (mkF m 19 #[.val (.long q0), .second, .val (.long q1), .second, .val (.long (q0 / q1)), .second] []))
      refine own_by (fun _ k => XS.lload X0.here hx rfl (hb hby d2_19) rfl k) ?_
      show OEnds p e below s _ _ _ (s₁.setTop (mkF m 21 #[.val (.long q0), .second, .val (.long q1), .second, .val (.long (q0 / q1)), .second] [(.long (q0 / q1))]))
      refine own_by (fun _ k => XS.lconst X0.here hx rfl (hb hby d2_21) k) ?_
      show OEnds p e below s _ _ _ (s₁.setTop (mkF m 22 #[.val (.long q0), .second, .val (.long q1), .second, .val (.long (q0 / q1)), .second] [(.long (1 : Int64)), (.long (q0 / q1))]))
      refine own_by (fun _ k => XS.lsub X0.here hx rfl (hb hby d2_22) rfl k) ?_
      show OEnds p e below s _ _ _ (s₁.setTop (mkF m 23 #[.val (.long q0), .second, .val (.long q1), .second, .val (.long (q0 / q1)), .second] [(.long ((q0 / q1) - (1 : Int64)))]))
      refine own_by (fun _ k => XS.lstore X0.here hx rfl (hb hby d2_23) rfl (l' := #[.val (.long q0), .second, .val (.long q1), .second, .val (.long ((q0 / q1) - (1 : Int64))), .second]) rfl k) ?_
      show OEnds p e below s _ _ _ (s₁.setTop (mkF m 25 #[.val (.long q0), .second, .val (.long q1), .second, .val (.long ((q0 / q1) - (1 : Int64))), .second] []))
      exact own_eq (congrArg Value.long (by rw [lfdiv, if_neg hc10, if_pos hc16] <;> rfl)) (blfdiv_25 s₁ X0 e0 ((q0 / q1) - (1 : Int64)))
    · refine own_by (fun _ k => XS.ifYes X0.here hx rfl (pc0 := 16) (pc' := 25) rfl (hb hby d2_16) rfl ((if0 _ _).trans (flt (fun q => hc16 ((lw_lt _ _).mp q))).2.1) (by decide) (by decide) k) ?_
      show OEnds p e below s _ _ _ (s₁.setTop (mkF m 25 #[.val (.long q0), .second, .val (.long q1), .second, .val (.long (q0 / q1)), .second] []))
      exact own_eq (congrArg Value.long (by rw [lfdiv, if_neg hc10, if_neg hc16] <;> rfl)) (blfdiv_25 s₁ X0 e0 (q0 / q1))
theorem d1_0 : decode method_3_code 0 = .ok (.lload_n 0, 1) := by decide +kernel
theorem d1_1 : decode method_3_code 1 = .ok (.ldc2_w 7, 3) := by decide +kernel
theorem d1_4 : decode method_3_code 4 = .ok (.invokestatic 9, 3) := by decide +kernel
theorem d1_7 : decode method_3_code 7 = .ok (.lload_n 0, 1) := by decide +kernel
theorem d1_8 : decode method_3_code 8 = .ok (.ldc2_w 15, 3) := by decide +kernel
theorem d1_11 : decode method_3_code 11 = .ok (.invokestatic 9, 3) := by decide +kernel
theorem d1_14 : decode method_3_code 14 = .ok (.lsub, 1) := by decide +kernel
theorem d1_15 : decode method_3_code 15 = .ok (.lload_n 0, 1) := by decide +kernel
theorem d1_16 : decode method_3_code 16 = .ok (.ldc2_w 17, 3) := by decide +kernel
theorem d1_19 : decode method_3_code 19 = .ok (.invokestatic 9, 3) := by decide +kernel
theorem d1_22 : decode method_3_code 22 = .ok (.ladd, 1) := by decide +kernel
theorem d1_23 : decode method_3_code 23 = .ok (.lreturn, 1) := by decide +kernel
theorem pn_1 : plainName "com/example/exact_membership/exactmembership/model/EpochDaysOfPinLaw" = true := by first | (simp [plainName, overriddenIn]; done) | decide +kernel
theorem ef_1 (m : MethodId) (q0 : Int64) : entryFrame m #[(.long q0)] 2 = mkF m 0 #[.val (.long q0), .second] [] := by first | (simp [entryFrame, mkF, argsToLocals, Value.category]; done) | rfl
def leaps (q0 : Int64) : Int64 := (((lfdiv q0 (4 : Int64)) - (lfdiv q0 (100 : Int64))) + (lfdiv q0 (400 : Int64)))
set_option maxRecDepth 65536 in
set_option maxHeartbeats 40000000 in
theorem rm_leaps (l : Launch) (Z : State) (a0 : Array Value) (hw : ∀ d ∈ tables_1, d.before a0 Z = true) (ws : List Jvm.Cond) (q0 : Int64) (h0 : Heap) :
    MetFree l (⟨"com/example/exact_membership/exactmembership/model/EpochDaysOfPinLaw", "leapsUpTo", "(J)J"⟩ : MethodName) (head1 (Jvm.Cond.code (⟨"com/example/exact_membership/exactmembership/model/EpochDaysOfPinLaw", "leapsUpTo", "(J)J"⟩ : MethodName) method_3_code 2 (some .long) :: ws) ({ frames := 1, cells := 0, slots := 0, locals := 19 } : Room)) (fun a U => a = #[(.long q0)] ∧ Z.Warmed39 U.vm ∧ U.heap = h0) (fun _ _ _ _ _ => True) (fun _ U o U' => ∃ v L, o = .returned v ∧ QP (Value.long (leaps q0)) h0 v U'.heap L ∧ FrameEnd U o U' L 0 0) := by
  refine MetFree.of_bodySF (plainFor_of_name pn_1) hisR ?_
  intro p e s m args below meth c s₁ Bd hml0 hP hK
  obtain ⟨rfl, hZ, hh⟩ := hP
  have hx := Bd.exec
  have hby := Bd.bytes
  have hlk : meth.locks = false := Bd.notSynchronized
  have hml : c.maxLocals = 2 := hml0
  have hown : s.vm.findClass "com/example/exact_membership/exactmembership/model/EpochDaysOfPinLaw" = some m.cls := findClass_of_methodNamed Bd.named
  have X0 : Stand p l e ({ frames := 1, cells := 0, slots := 0, locals := 19 } : Room) s m #[(.long q0)] below meth c s₁ [] 0 0 := Stand.of_body Bd
  have e0 : s₁.heap = h0 := by rw [← hh, Bd.state]; rfl
  show OEnds p e below s _ _ _ _
  refine own_by (fun t k => castTop (ef_1 m q0) k) ?_
  show OEnds p e below s _ _ _ (s₁.setTop (mkF m 0 #[.val (.long q0), .second] []))
  refine own_by (fun _ k => XS.lloadN X0.here hx rfl (hb hby d1_0) rfl k) ?_
  show OEnds p e below s _ _ _ (s₁.setTop (mkF m 1 #[.val (.long q0), .second] [(.long q0)]))
  refine own_by (X0.ldc2Long hx hown (mvT hZ (hw _ (List.mem_of_getElem? (i := 8) rfl))) (g := (mkF m 1 #[.val (.long q0), .second] [(.long q0)])) rfl (hb hby d1_1)) ?_
  show OEnds p e below s _ _ _ (s₁.setTop (mkF m 4 #[.val (.long q0), .second] [(.long (4 : Int64)), (.long q0)]))
  obtain ⟨T4, X4, e4, st4⟩ := own_callP X0 hx hZ (y := (⟨"com/example/exact_membership/exactmembership/model/EpochDaysOfPinLaw", "fdiv", "(JJ)J"⟩ : MethodName)) hown (hw _ (List.mem_of_getElem? (i := 9) rfl)) (hw _ (List.mem_of_getElem? (i := 10) rfl)) (hw _ (List.mem_of_getElem? (i := 6) rfl)) (hw _ (List.mem_of_getElem? (i := 11) rfl)) (by decide) (rm_lfdiv l Z a0 hw [] q0 (4 : Int64) h0 (by decide)) e0 (g := (mkF m 4 #[.val (.long q0), .second] [(.long (4 : Int64)), (.long q0)])) rfl (by rw [hml]; rfl) (argsL := [(.long q0), (.long (4 : Int64))]) (rest := []) (lenOf pd_pJJrJ rfl) rfl (W := 0) (by show 2 * 0 + _ ≤ _; exact Nat.le_of_eq rfl) (hb hby d1_4) (by decide) (by decide) (by decide) (by decide)
  refine own_by st4 ?_
  show OEnds p e below s _ _ _ (T4.setTop (mkF m 7 #[.val (.long q0), .second] [(.long (lfdiv q0 (4 : Int64)))]))
  refine own_by (fun _ k => XS.lloadN X4.here hx rfl (hb hby d1_7) rfl k) ?_
  show OEnds p e below s _ _ _ (T4.setTop (mkF m 8 #[.val (.long q0), .second] [(.long q0), (.long (lfdiv q0 (4 : Int64)))]))
  refine own_by (X4.ldc2Long hx hown (mvT hZ (hw _ (List.mem_of_getElem? (i := 12) rfl))) (g := (mkF m 8 #[.val (.long q0), .second] [(.long q0), (.long (lfdiv q0 (4 : Int64)))])) rfl (hb hby d1_8)) ?_
  show OEnds p e below s _ _ _ (T4.setTop (mkF m 11 #[.val (.long q0), .second] [(.long (100 : Int64)), (.long q0), (.long (lfdiv q0 (4 : Int64)))]))
  obtain ⟨T5, X5, e5, st5⟩ := own_callP X4 hx hZ (y := (⟨"com/example/exact_membership/exactmembership/model/EpochDaysOfPinLaw", "fdiv", "(JJ)J"⟩ : MethodName)) hown (hw _ (List.mem_of_getElem? (i := 9) rfl)) (hw _ (List.mem_of_getElem? (i := 10) rfl)) (hw _ (List.mem_of_getElem? (i := 6) rfl)) (hw _ (List.mem_of_getElem? (i := 11) rfl)) (by decide) (rm_lfdiv l Z a0 hw [] q0 (100 : Int64) h0 (by decide)) e4 (g := (mkF m 11 #[.val (.long q0), .second] [(.long (100 : Int64)), (.long q0), (.long (lfdiv q0 (4 : Int64)))])) rfl (by rw [hml]; rfl) (argsL := [(.long q0), (.long (100 : Int64))]) (rest := [(.long (lfdiv q0 (4 : Int64)))]) (lenOf pd_pJJrJ rfl) rfl (W := 2) (by show 2 * 0 + _ ≤ _; exact Nat.le_of_eq rfl) (hb hby d1_11) (by decide) (by decide) (by decide) (by decide)
  refine own_by st5 ?_
  show OEnds p e below s _ _ _ (T5.setTop (mkF m 14 #[.val (.long q0), .second] [(.long (lfdiv q0 (100 : Int64))), (.long (lfdiv q0 (4 : Int64)))]))
  refine own_by (fun _ k => XS.lsub X5.here hx rfl (hb hby d1_14) rfl k) ?_
  show OEnds p e below s _ _ _ (T5.setTop (mkF m 15 #[.val (.long q0), .second] [(.long ((lfdiv q0 (4 : Int64)) - (lfdiv q0 (100 : Int64))))]))
  refine own_by (fun _ k => XS.lloadN X5.here hx rfl (hb hby d1_15) rfl k) ?_
  show OEnds p e below s _ _ _ (T5.setTop (mkF m 16 #[.val (.long q0), .second] [(.long q0), (.long ((lfdiv q0 (4 : Int64)) - (lfdiv q0 (100 : Int64))))]))
  refine own_by (X5.ldc2Long hx hown (mvT hZ (hw _ (List.mem_of_getElem? (i := 13) rfl))) (g := (mkF m 16 #[.val (.long q0), .second] [(.long q0), (.long ((lfdiv q0 (4 : Int64)) - (lfdiv q0 (100 : Int64))))])) rfl (hb hby d1_16)) ?_
  show OEnds p e below s _ _ _ (T5.setTop (mkF m 19 #[.val (.long q0), .second] [(.long (400 : Int64)), (.long q0), (.long ((lfdiv q0 (4 : Int64)) - (lfdiv q0 (100 : Int64))))]))
  obtain ⟨T6, X6, e6, st6⟩ := own_callP X5 hx hZ (y := (⟨"com/example/exact_membership/exactmembership/model/EpochDaysOfPinLaw", "fdiv", "(JJ)J"⟩ : MethodName)) hown (hw _ (List.mem_of_getElem? (i := 9) rfl)) (hw _ (List.mem_of_getElem? (i := 10) rfl)) (hw _ (List.mem_of_getElem? (i := 6) rfl)) (hw _ (List.mem_of_getElem? (i := 11) rfl)) (by decide) (rm_lfdiv l Z a0 hw [] q0 (400 : Int64) h0 (by decide)) e5 (g := (mkF m 19 #[.val (.long q0), .second] [(.long (400 : Int64)), (.long q0), (.long ((lfdiv q0 (4 : Int64)) - (lfdiv q0 (100 : Int64))))])) rfl (by rw [hml]; rfl) (argsL := [(.long q0), (.long (400 : Int64))]) (rest := [(.long ((lfdiv q0 (4 : Int64)) - (lfdiv q0 (100 : Int64))))]) (lenOf pd_pJJrJ rfl) rfl (W := 2) (by show 2 * 0 + _ ≤ _; exact Nat.le_of_eq rfl) (hb hby d1_19) (by decide) (by decide) (by decide) (by decide)
  refine own_by st6 ?_
  show OEnds p e below s _ _ _ (T6.setTop (mkF m 22 #[.val (.long q0), .second] [(.long (lfdiv q0 (400 : Int64))), (.long ((lfdiv q0 (4 : Int64)) - (lfdiv q0 (100 : Int64))))]))
  refine own_by (fun _ k => XS.ladd X6.here hx rfl (hb hby d1_22) rfl k) ?_
  show OEnds p e below s _ _ _ (T6.setTop (mkF m 23 #[.val (.long q0), .second] [(.long (((lfdiv q0 (4 : Int64)) - (lfdiv q0 (100 : Int64))) + (lfdiv q0 (400 : Int64))))]))
  exact own_retJ X6 hx hlk Bd.returns (hb hby d1_23) ⟨congrArg (fun z => some (Value.long z)) (Eq.symm (by rw [leaps] <;> rfl)), rfl, e6⟩ (Nat.le_refl _) (Nat.le_refl _)
theorem d3_0 : decode method_4_code 0 = .ok (.lload_n 0, 1) := by decide +kernel
theorem d3_1 : decode method_4_code 1 = .ok (.ldc2_w 7, 3) := by decide +kernel
theorem d3_4 : decode method_4_code 4 = .ok (.lrem, 1) := by decide +kernel
theorem d3_5 : decode method_4_code 5 = .ok (.lconst 0, 1) := by decide +kernel
theorem d3_6 : decode method_4_code 6 = .ok (.lcmp, 1) := by decide +kernel
theorem d3_7 : decode method_4_code 7 = .ok (.ifCond .ne 27, 3) := by decide +kernel
theorem d3_10 : decode method_4_code 10 = .ok (.lload_n 0, 1) := by decide +kernel
theorem d3_11 : decode method_4_code 11 = .ok (.ldc2_w 15, 3) := by decide +kernel
theorem d3_14 : decode method_4_code 14 = .ok (.lrem, 1) := by decide +kernel
theorem d3_15 : decode method_4_code 15 = .ok (.lconst 0, 1) := by decide +kernel
theorem d3_16 : decode method_4_code 16 = .ok (.lcmp, 1) := by decide +kernel
theorem d3_17 : decode method_4_code 17 = .ok (.ifCond .ne 13, 3) := by decide +kernel
theorem d3_20 : decode method_4_code 20 = .ok (.lload_n 0, 1) := by decide +kernel
theorem d3_21 : decode method_4_code 21 = .ok (.ldc2_w 17, 3) := by decide +kernel
theorem d3_24 : decode method_4_code 24 = .ok (.lrem, 1) := by decide +kernel
theorem d3_25 : decode method_4_code 25 = .ok (.lconst 0, 1) := by decide +kernel
theorem d3_26 : decode method_4_code 26 = .ok (.lcmp, 1) := by decide +kernel
theorem d3_27 : decode method_4_code 27 = .ok (.ifCond .ne 7, 3) := by decide +kernel
theorem d3_30 : decode method_4_code 30 = .ok (.iconst 1, 1) := by decide +kernel
theorem d3_31 : decode method_4_code 31 = .ok (.goto 4, 3) := by decide +kernel
theorem d3_34 : decode method_4_code 34 = .ok (.iconst 0, 1) := by decide +kernel
theorem d3_35 : decode method_4_code 35 = .ok (.ireturn, 1) := by decide +kernel
theorem pn_3 : plainName "com/example/exact_membership/exactmembership/model/EpochDaysOfPinLaw" = true := by first | (simp [plainName, overriddenIn]; done) | decide +kernel
theorem ef_3 (m : MethodId) (q0 : Int64) : entryFrame m #[(.long q0)] 2 = mkF m 0 #[.val (.long q0), .second] [] := by first | (simp [entryFrame, mkF, argsToLocals, Value.category]; done) | rfl
def leap_35 (v35_s0 : Int32) : Int32 := (nar .boolean v35_s0)
def leap_34  : Int32 := (leap_35 (0 : Int32))
def leap_30  : Int32 := (leap_35 (1 : Int32))
def leap (q0 : Int64) : Int32 := if (q0 % (4 : Int64)) = (0 : Int64) then if (q0 % (100 : Int64)) = (0 : Int64) then if (q0 % (400 : Int64)) = (0 : Int64) then leap_30 else leap_34 else leap_30 else leap_34
set_option maxRecDepth 65536 in
set_option maxHeartbeats 40000000 in
theorem rm_leap (l : Launch) (Z : State) (a0 : Array Value) (hw : ∀ d ∈ tables_1, d.before a0 Z = true) (ws : List Jvm.Cond) (q0 : Int64) (h0 : Heap) :
    MetFree l (⟨"com/example/exact_membership/exactmembership/model/EpochDaysOfPinLaw", "leap", "(J)Z"⟩ : MethodName) (head1 (Jvm.Cond.code (⟨"com/example/exact_membership/exactmembership/model/EpochDaysOfPinLaw", "leap", "(J)Z"⟩ : MethodName) method_4_code 2 (some .boolean) :: ws) ({ frames := 0, cells := 0, slots := 0, locals := 0 } : Room)) (fun a U => a = #[(.long q0)] ∧ Z.Warmed39 U.vm ∧ U.heap = h0) (fun _ _ _ _ _ => True) (fun _ U o U' => ∃ v L, o = .returned v ∧ QP (Value.int (leap q0)) h0 v U'.heap L ∧ FrameEnd U o U' L 0 0) := by
  refine MetFree.of_bodySF (plainFor_of_name pn_3) hisR ?_
  intro p e s m args below meth c s₁ Bd hml0 hP hK
  obtain ⟨rfl, hZ, hh⟩ := hP
  have hx := Bd.exec
  have hby := Bd.bytes
  have hlk : meth.locks = false := Bd.notSynchronized
  have hml : c.maxLocals = 2 := hml0
  have hown : s.vm.findClass "com/example/exact_membership/exactmembership/model/EpochDaysOfPinLaw" = some m.cls := findClass_of_methodNamed Bd.named
  have X0 : Stand p l e ({ frames := 0, cells := 0, slots := 0, locals := 0 } : Room) s m #[(.long q0)] below meth c s₁ [] 0 0 := Stand.of_body Bd
  have e0 : s₁.heap = h0 := by rw [← hh, Bd.state]; rfl
  have bleap_35 : ∀ (T : State) (X : Stand p l e ({ frames := 0, cells := 0, slots := 0, locals := 0 } : Room) s m #[(.long q0)] below meth c T [] 0 0) (eT : T.heap = h0) (v35_s0 : Int32), OEnds p e below s (QP (Value.int (leap_35 v35_s0)) h0) 0 0 (T.setTop (mkF m 35 #[.val (.long q0), .second] [(.int v35_s0)])) := by
    intro T X eT v35_s0
    exact own_retN X hx hlk .boolean (by simp) Bd.returns (hb hby d3_35) ⟨congrArg (fun z => some (Value.int z)) (Eq.symm (by rw [leap_35] <;> rfl)), rfl, eT⟩ (Nat.le_refl _) (Nat.le_refl _)
  have bleap_34 : ∀ (T : State) (X : Stand p l e ({ frames := 0, cells := 0, slots := 0, locals := 0 } : Room) s m #[(.long q0)] below meth c T [] 0 0) (eT : T.heap = h0), OEnds p e below s (QP (Value.int (leap_34)) h0) 0 0 (T.setTop (mkF m 34 #[.val (.long q0), .second] [])) := by
    intro T X eT
    refine own_by (fun _ k => XS.iconst X.here hx rfl (hb hby d3_34) k) ?_
    show OEnds p e below s _ _ _ (T.setTop (mkF m 35 #[.val (.long q0), .second] [(.int (0 : Int32))]))
    exact own_eq (congrArg Value.int (by rw [leap_34] <;> rfl)) (bleap_35 T X eT (0 : Int32))
  have bleap_30 : ∀ (T : State) (X : Stand p l e ({ frames := 0, cells := 0, slots := 0, locals := 0 } : Room) s m #[(.long q0)] below meth c T [] 0 0) (eT : T.heap = h0), OEnds p e below s (QP (Value.int (leap_30)) h0) 0 0 (T.setTop (mkF m 30 #[.val (.long q0), .second] [])) := by
    intro T X eT
    refine own_by (fun _ k => XS.iconst X.here hx rfl (hb hby d3_30) k) ?_
    show OEnds p e below s _ _ _ (T.setTop (mkF m 31 #[.val (.long q0), .second] [(.int (1 : Int32))]))
    refine own_by (fun _ k => XS.goto X.here hx rfl (pc0 := 31) (pc' := 35) rfl (hb hby d3_31) (by decide) (by decide) k) ?_
    show OEnds p e below s _ _ _ (T.setTop (mkF m 35 #[.val (.long q0), .second] [(.int (1 : Int32))]))
    exact own_eq (congrArg Value.int (by rw [leap_30] <;> rfl)) (bleap_35 T X eT (1 : Int32))
  show OEnds p e below s _ _ _ _
  refine own_by (fun t k => castTop (ef_3 m q0) k) ?_
  show OEnds p e below s _ _ _ (s₁.setTop (mkF m 0 #[.val (.long q0), .second] []))
  refine own_by (fun _ k => XS.lloadN X0.here hx rfl (hb hby d3_0) rfl k) ?_
  show OEnds p e below s _ _ _ (s₁.setTop (mkF m 1 #[.val (.long q0), .second] [(.long q0)]))
  refine own_by (X0.ldc2Long hx hown (mvT hZ (hw _ (List.mem_of_getElem? (i := 8) rfl))) (g := (mkF m 1 #[.val (.long q0), .second] [(.long q0)])) rfl (hb hby d3_1)) ?_
  show OEnds p e below s _ _ _ (s₁.setTop (mkF m 4 #[.val (.long q0), .second] [(.long (4 : Int64)), (.long q0)]))
  refine own_by (fun _ k => own_lrem X0 hx rfl (hb hby d3_4) rfl (by decide) k) ?_
  show OEnds p e below s _ _ _ (s₁.setTop (mkF m 5 #[.val (.long q0), .second] [(.long (q0 % (4 : Int64)))]))
  refine own_by (fun _ k => XS.lconst X0.here hx rfl (hb hby d3_5) k) ?_
  show OEnds p e below s _ _ _ (s₁.setTop (mkF m 6 #[.val (.long q0), .second] [(.long (0 : Int64)), (.long (q0 % (4 : Int64)))]))
  refine own_by (fun _ k => XS.lcmp X0.here hx rfl (hb hby d3_6) rfl k) ?_
  show OEnds p e below s _ _ _ (s₁.setTop (mkF m 7 #[.val (.long q0), .second] [(.int (lcmpW (q0 % (4 : Int64)) (0 : Int64)))]))
  by_cases hc7 : (q0 % (4 : Int64)) = (0 : Int64)
  · refine own_by (fun _ k => XS.ifNo X0.here hx rfl (hb hby d3_7) rfl ((if0 _ _).trans (teq ((lw_eq _ _).mpr hc7)).2) k) ?_
    show OEnds p e below s _ _ _ (s₁.setTop (mkF m 10 #[.val (.long q0), .second] []))
    refine own_by (fun _ k => XS.lloadN X0.here hx rfl (hb hby d3_10) rfl k) ?_
    show OEnds p e below s _ _ _ (s₁.setTop (mkF m 11 #[.val (.long q0), .second] [(.long q0)]))
    refine own_by (X0.ldc2Long hx hown (mvT hZ (hw _ (List.mem_of_getElem? (i := 12) rfl))) (g := (mkF m 11 #[.val (.long q0), .second] [(.long q0)])) rfl (hb hby d3_11)) ?_
    show OEnds p e below s _ _ _ (s₁.setTop (mkF m 14 #[.val (.long q0), .second] [(.long (100 : Int64)), (.long q0)]))
    refine own_by (fun _ k => own_lrem X0 hx rfl (hb hby d3_14) rfl (by decide) k) ?_
    show OEnds p e below s _ _ _ (s₁.setTop (mkF m 15 #[.val (.long q0), .second] [(.long (q0 % (100 : Int64)))]))
    refine own_by (fun _ k => XS.lconst X0.here hx rfl (hb hby d3_15) k) ?_
    show OEnds p e below s _ _ _ (s₁.setTop (mkF m 16 #[.val (.long q0), .second] [(.long (0 : Int64)), (.long (q0 % (100 : Int64)))]))
    refine own_by (fun _ k => XS.lcmp X0.here hx rfl (hb hby d3_16) rfl k) ?_
    show OEnds p e below s _ _ _ (s₁.setTop (mkF m 17 #[.val (.long q0), .second] [(.int (lcmpW (q0 % (100 : Int64)) (0 : Int64)))]))
    by_cases hc17 : (q0 % (100 : Int64)) = (0 : Int64)
    · refine own_by (fun _ k => XS.ifNo X0.here hx rfl (hb hby d3_17) rfl ((if0 _ _).trans (teq ((lw_eq _ _).mpr hc17)).2) k) ?_
      show OEnds p e below s _ _ _ (s₁.setTop (mkF m 20 #[.val (.long q0), .second] []))
      refine own_by (fun _ k => XS.lloadN X0.here hx rfl (hb hby d3_20) rfl k) ?_
      show OEnds p e below s _ _ _ (s₁.setTop (mkF m 21 #[.val (.long q0), .second] [(.long q0)]))
      refine own_by (X0.ldc2Long hx hown (mvT hZ (hw _ (List.mem_of_getElem? (i := 13) rfl))) (g := (mkF m 21 #[.val (.long q0), .second] [(.long q0)])) rfl (hb hby d3_21)) ?_
      show OEnds p e below s _ _ _ (s₁.setTop (mkF m 24 #[.val (.long q0), .second] [(.long (400 : Int64)), (.long q0)]))
      refine own_by (fun _ k => own_lrem X0 hx rfl (hb hby d3_24) rfl (by decide) k) ?_
      show OEnds p e below s _ _ _ (s₁.setTop (mkF m 25 #[.val (.long q0), .second] [(.long (q0 % (400 : Int64)))]))
      refine own_by (fun _ k => XS.lconst X0.here hx rfl (hb hby d3_25) k) ?_
      show OEnds p e below s _ _ _ (s₁.setTop (mkF m 26 #[.val (.long q0), .second] [(.long (0 : Int64)), (.long (q0 % (400 : Int64)))]))
      refine own_by (fun _ k => XS.lcmp X0.here hx rfl (hb hby d3_26) rfl k) ?_
      show OEnds p e below s _ _ _ (s₁.setTop (mkF m 27 #[.val (.long q0), .second] [(.int (lcmpW (q0 % (400 : Int64)) (0 : Int64)))]))
      by_cases hc27 : (q0 % (400 : Int64)) = (0 : Int64)
      · refine own_by (fun _ k => XS.ifNo X0.here hx rfl (hb hby d3_27) rfl ((if0 _ _).trans (teq ((lw_eq _ _).mpr hc27)).2) k) ?_
        show OEnds p e below s _ _ _ (s₁.setTop (mkF m 30 #[.val (.long q0), .second] []))
        exact own_eq (congrArg Value.int (by rw [leap, if_pos hc7, if_pos hc17, if_pos hc27] <;> rfl)) (bleap_30 s₁ X0 e0)
      · refine own_by (fun _ k => XS.ifYes X0.here hx rfl (pc0 := 27) (pc' := 34) rfl (hb hby d3_27) rfl ((if0 _ _).trans (feq (fun q => hc27 ((lw_eq _ _).mp q))).2) (by decide) (by decide) k) ?_
        show OEnds p e below s _ _ _ (s₁.setTop (mkF m 34 #[.val (.long q0), .second] []))
        exact own_eq (congrArg Value.int (by rw [leap, if_pos hc7, if_pos hc17, if_neg hc27] <;> rfl)) (bleap_34 s₁ X0 e0)
    · refine own_by (fun _ k => XS.ifYes X0.here hx rfl (pc0 := 17) (pc' := 30) rfl (hb hby d3_17) rfl ((if0 _ _).trans (feq (fun q => hc17 ((lw_eq _ _).mp q))).2) (by decide) (by decide) k) ?_
      show OEnds p e below s _ _ _ (s₁.setTop (mkF m 30 #[.val (.long q0), .second] []))
      exact own_eq (congrArg Value.int (by rw [leap, if_pos hc7, if_neg hc17] <;> rfl)) (bleap_30 s₁ X0 e0)
  · refine own_by (fun _ k => XS.ifYes X0.here hx rfl (pc0 := 7) (pc' := 34) rfl (hb hby d3_7) rfl ((if0 _ _).trans (feq (fun q => hc7 ((lw_eq _ _).mp q))).2) (by decide) (by decide) k) ?_
    show OEnds p e below s _ _ _ (s₁.setTop (mkF m 34 #[.val (.long q0), .second] []))
    exact own_eq (congrArg Value.int (by rw [leap, if_neg hc7] <;> rfl)) (bleap_34 s₁ X0 e0)
theorem own_ladd {a b : Int64} (h1 : -9223372036854775808 ≤ a.toInt + b.toInt) (h2 : a.toInt + b.toInt < 9223372036854775808) : (a + b).toInt = a.toInt + b.toInt := by
  have := c_ladd a b; have := rng64 (a + b); omega
theorem own_lsub {a b : Int64} (h1 : -9223372036854775808 ≤ a.toInt - b.toInt) (h2 : a.toInt - b.toInt < 9223372036854775808) : (a - b).toInt = a.toInt - b.toInt := by
  have := c_lsub a b; have := rng64 (a - b); omega
theorem own_lmul {a b : Int64} {P : Int} (hP : a.toInt * b.toInt = P) (h1 : -9223372036854775808 ≤ P) (h2 : P < 9223372036854775808) : (a * b).toInt = P := by
  have := c_lmul a b; have := rng64 (a * b); rw [hP] at *; omega
theorem own_iadd {a b : Int32} (h1 : -2147483648 ≤ a.toInt + b.toInt) (h2 : a.toInt + b.toInt < 2147483648) : (a + b).toInt = a.toInt + b.toInt := by
  have := c_iadd a b; have := rng32 (a + b); omega
theorem own_isub {a b : Int32} (h1 : -2147483648 ≤ a.toInt - b.toInt) (h2 : a.toInt - b.toInt < 2147483648) : (a - b).toInt = a.toInt - b.toInt := by
  have := c_isub a b; have := rng32 (a - b); omega
theorem own_imul {a b : Int32} {P : Int} (hP : a.toInt * b.toInt = P) (h1 : -2147483648 ≤ P) (h2 : P < 2147483648) : (a * b).toInt = P := by
  have := c_imul a b; have := rng32 (a * b); rw [hP] at *; omega
theorem fdivI_400 (x : Int64) : (fdivI x (400 : Int32)).toInt = x.toInt / 400 := by
  obtain ⟨y, ey⟩ : ∃ y, y = ((400 : Int32).toInt64) := ⟨_, rfl⟩
  have hy : y.toInt = 400 := by rw [ey]; decide
  have hy1 : y ≠ -1 := by rw [ey]; decide
  have hq := c_ldiv x y 400 hy hy1
  have hxs := c_xorSL x y
  have hm := c_lmul (x / y) y
  have hmr := rng64 ((x / y) * y)
  have hs := c_lsub (x / y) 1
  have hsr := rng64 (x / y - 1)
  have hr := rng64 x
  have h1 : (1 : Int64).toInt = 1 := by decide
  have h0 : (0 : Int64).toInt = 0 := by decide
  rw [hy] at hm hxs
  rw [h1] at hs
  simp only [fdivI, fdivL, fdivL_27, ← ey]
  by_cases hx : x.toInt < 0
  · have hxor : (x ^^^ y) < 0 := by rw [Int64.lt_iff_toInt_lt, h0]; exact hxs.2.1 hx (by omega)
    have q := hq.2 hx
    rw [if_pos hxor]
    have hb1 : -9223372036854775808 ≤ (x / y).toInt * 400 := by omega
    have hb2 : (x / y).toInt * 400 ≤ 0 := by omega
    have hmul : ((x / y) * y).toInt = (x / y).toInt * 400 := by clear hs hsr hq hxs q; omega
    by_cases he : ((x / y) * y) = x
    · rw [if_pos he]
      rw [he] at hmul
      omega
    · rw [if_neg he]
      have hne : ((x / y) * y).toInt ≠ x.toInt := fun q => he (Int64.toInt_inj.mp q)
      clear hm hmr
      omega
  · have hxor : ¬ (x ^^^ y) < 0 := by rw [Int64.lt_iff_toInt_lt, h0]; have := hxs.2.2.2 (by omega) (by omega); omega
    have q := hq.1 (by omega)
    rw [if_neg hxor]
    omega
def EP (Y m2 d : Int) : Int := (Y / 400) * 146097 + ((Y % 400) * 365 + (Y % 400) / 4 - (Y % 400) / 100 + ((153 * m2 + 2) / 5 + d - 1)) - 719468
theorem epof_spec (y : Int64) (m d : Int32) (hy1 : -18014398509481984 ≤ y.toInt) (hy2 : y.toInt ≤ 18014398509481984) (hm1 : 1 ≤ m.toInt) (hm2 : m.toInt ≤ 12) (hd1 : -1073741824 ≤ d.toInt) (hd2 : d.toInt ≤ 1073741824) :
    (epof y m d).toInt = EP (y.toInt - ((m.toInt + 9) % 12) / 10) ((m.toInt + 9) % 12) d.toInt := by
  obtain ⟨v9, e9⟩ : ∃ v, v = (m + (9 : Int32)) % (12 : Int32) := ⟨_, rfl⟩
  have k9 : v9.toInt = (m.toInt + 9) % 12 := by
    have a1 : (m + (9 : Int32)).toInt = m.toInt + 9 := own_iadd (b := 9) (by show _ ≤ m.toInt + 9; omega) (by show m.toInt + 9 < _; omega)
    have a2 := (c_irem (m + (9 : Int32)) 12 12 (by decide)).1 (by omega)
    rw [e9, a2, a1]
  obtain ⟨v10, e10⟩ : ∃ v, v = v9 / (10 : Int32) := ⟨_, rfl⟩
  have k10 : v10.toInt = v9.toInt / 10 := by rw [e10]; exact (c_idiv v9 10 10 (by decide) (by decide)).1 (by omega)
  obtain ⟨v19, e19⟩ : ∃ v, v = y - (v10.toInt64) := ⟨_, rfl⟩
  have k19 : v19.toInt = y.toInt - v10.toInt := by
    have := c_i2l v10
    rw [e19, own_lsub (by omega) (by omega), this]
  obtain ⟨v29, e29⟩ : ∃ v, v = fdivI v19 (400 : Int32) := ⟨_, rfl⟩
  have k29 : v29.toInt = v19.toInt / 400 := by rw [e29]; exact fdivI_400 v19
  obtain ⟨v40, e40⟩ : ∃ v, v = v19 - (v29 * (400 : Int64)) := ⟨_, rfl⟩
  have k40 : v40.toInt = v19.toInt % 400 := by
    have a1 : (v29 * (400 : Int64)).toInt = v29.toInt * 400 := own_lmul (b := 400) rfl (by omega) (by omega)
    rw [e40, own_lsub (by rw [a1]; omega) (by rw [a1]; omega), a1]; omega
  obtain ⟨v56, e56⟩ : ∃ v, v = ((((((153 : Int32) * v9) + (2 : Int32)) / (5 : Int32)) + d) - (1 : Int32)) := ⟨_, rfl⟩
  have k56 : v56.toInt = (153 * v9.toInt + 2) / 5 + d.toInt - 1 := by
    have a1 : ((153 : Int32) * v9).toInt = 153 * v9.toInt := own_imul (a := 153) rfl (by omega) (by omega)
    have a2 : (((153 : Int32) * v9) + (2 : Int32)).toInt = 153 * v9.toInt + 2 := by
      have h2 : (2 : Int32).toInt = 2 := by decide
      rw [own_iadd (by rw [a1, h2]; omega) (by rw [a1, h2]; omega), a1, h2]
    have a3 := (c_idiv (((153 : Int32) * v9) + (2 : Int32)) 5 5 (by decide) (by decide)).1 (by omega)
    rw [a2] at a3
    have a4 : ((((153 : Int32) * v9) + (2 : Int32)) / (5 : Int32) + d).toInt = (153 * v9.toInt + 2) / 5 + d.toInt := by
      rw [own_iadd (by rw [a3]; omega) (by rw [a3]; omega), a3]
    have h1 : (1 : Int32).toInt = 1 := by decide
    rw [e56, own_isub (by rw [a4, h1]; omega) (by rw [a4, h1]; omega), a4, h1]
  have e : epof y m d = (((v29 * (146097 : Int64)) + ((((v40 * (365 : Int64)) + (v40 / (4 : Int64))) - (v40 / (100 : Int64))) + (v56.toInt64))) - (719468 : Int64)) := by
    simp only [epof, epof_9, epof_19, epof_29, epof_40, epof_56, epof_82, ← e9, ← e10, ← e19, ← e29, ← e40, ← e56]
  have b1 : (v40 * (365 : Int64)).toInt = v40.toInt * 365 := own_lmul (b := 365) rfl (by omega) (by omega)
  have b2 := (c_ldiv v40 4 4 (by decide) (by decide)).1 (by omega)
  have b3 := (c_ldiv v40 100 100 (by decide) (by decide)).1 (by omega)
  have b4 : ((v40 * (365 : Int64)) + (v40 / (4 : Int64))).toInt = v40.toInt * 365 + v40.toInt / 4 := by rw [own_ladd (by rw [b1, b2]; omega) (by rw [b1, b2]; omega), b1, b2]
  have b5 : (((v40 * (365 : Int64)) + (v40 / (4 : Int64))) - (v40 / (100 : Int64))).toInt = v40.toInt * 365 + v40.toInt / 4 - v40.toInt / 100 := by rw [own_lsub (by rw [b4, b3]; omega) (by rw [b4, b3]; omega), b4, b3]
  have b6 := c_i2l v56
  have b7 : ((((v40 * (365 : Int64)) + (v40 / (4 : Int64))) - (v40 / (100 : Int64))) + (v56.toInt64)).toInt = v40.toInt * 365 + v40.toInt / 4 - v40.toInt / 100 + v56.toInt := by rw [own_ladd (by rw [b5, b6]; omega) (by rw [b5, b6]; omega), b5, b6]
  have b8 : (v29 * (146097 : Int64)).toInt = v29.toInt * 146097 := own_lmul (b := 146097) rfl (by omega) (by omega)
  have b9 : ((v29 * (146097 : Int64)) + ((((v40 * (365 : Int64)) + (v40 / (4 : Int64))) - (v40 / (100 : Int64))) + (v56.toInt64))).toInt = v29.toInt * 146097 + (v40.toInt * 365 + v40.toInt / 4 - v40.toInt / 100 + v56.toInt) := by rw [own_ladd (by rw [b8, b7]; omega) (by rw [b8, b7]; omega), b8, b7]
  have h7 : (719468 : Int64).toInt = 719468 := by decide
  rw [e, own_lsub (by rw [b9, h7]; omega) (by rw [b9, h7]; omega), b9, h7, k56, k40, k29, k19, k10, k9, EP]
def cumT (k : Nat) : Int32 := [0, 31, 59, 90, 120, 151, 181, 212, 243, 273, 304, 334].getD k 0
theorem rem0 (y : Int64) (d : Int64) (D : Int) (hd : d.toInt = D) (hD : 0 < D) : (y % d) = 0 ↔ y.toInt % D = 0 := by
  have h := c_lrem y d D hd
  rw [lrem_mod] at h
  have h0 : (0 : Int64).toInt = 0 := by decide
  rw [← Int64.toInt_inj, h0]
  have hm := Int.emod_nonneg y.toInt (by omega : D ≠ 0)
  by_cases hy : 0 ≤ y.toInt
  · rw [h.1 hy]
  · rw [h.2 (by omega)]
    have e1 : D ∣ -y.toInt ↔ D ∣ y.toInt := Int.dvd_neg
    constructor
    · intro q
      have : (-y.toInt) % D = 0 := by omega
      exact Int.emod_eq_zero_of_dvd (e1.mp (Int.dvd_of_emod_eq_zero this))
    · intro q
      have : (-y.toInt) % D = 0 := Int.emod_eq_zero_of_dvd (e1.mpr (Int.dvd_of_emod_eq_zero q))
      omega
theorem lfdiv_4 (x : Int64) : (lfdiv x (4 : Int64)).toInt = x.toInt / 4 := by
  have hq := c_ldiv x 4 4 (by decide) (by decide)
  have hr := c_lrem x 4 4 (by decide)
  rw [lrem_mod] at hr
  have h0 : (0 : Int64).toInt = 0 := by decide
  have h1 : (1 : Int64).toInt = 1 := by decide
  have hx := rng64 x
  simp only [lfdiv, lfdiv_25]
  by_cases a : (x % (4 : Int64)) = 0
  · rw [if_pos a]
    have a' : (x % (4 : Int64)).toInt = 0 := by rw [a]; exact h0
    omega
  · rw [if_neg a]
    have a' : (x % (4 : Int64)).toInt ≠ 0 := fun q => a (Int64.toInt_inj.mp (q.trans h0.symm))
    by_cases b : x < 0
    · rw [if_pos b]
      rw [Int64.lt_iff_toInt_lt, h0] at b
      have q := hq.2 b
      have e : (x / (4 : Int64) - 1).toInt = (x / (4 : Int64)).toInt - 1 := by
        have := own_lsub (a := x / (4 : Int64)) (b := 1) (by rw [h1]; omega) (by rw [h1]; omega)
        rw [this, h1]
      rw [e]
      omega
    · rw [if_neg b]
      rw [Int64.lt_iff_toInt_lt, h0] at b
      omega
theorem lfdiv_100 (x : Int64) : (lfdiv x (100 : Int64)).toInt = x.toInt / 100 := by
  have hq := c_ldiv x 100 100 (by decide) (by decide)
  have hr := c_lrem x 100 100 (by decide)
  rw [lrem_mod] at hr
  have h0 : (0 : Int64).toInt = 0 := by decide
  have h1 : (1 : Int64).toInt = 1 := by decide
  have hx := rng64 x
  simp only [lfdiv, lfdiv_25]
  by_cases a : (x % (100 : Int64)) = 0
  · rw [if_pos a]
    have a' : (x % (100 : Int64)).toInt = 0 := by rw [a]; exact h0
    omega
  · rw [if_neg a]
    have a' : (x % (100 : Int64)).toInt ≠ 0 := fun q => a (Int64.toInt_inj.mp (q.trans h0.symm))
    by_cases b : x < 0
    · rw [if_pos b]
      rw [Int64.lt_iff_toInt_lt, h0] at b
      have q := hq.2 b
      have e : (x / (100 : Int64) - 1).toInt = (x / (100 : Int64)).toInt - 1 := by
        have := own_lsub (a := x / (100 : Int64)) (b := 1) (by rw [h1]; omega) (by rw [h1]; omega)
        rw [this, h1]
      rw [e]
      omega
    · rw [if_neg b]
      rw [Int64.lt_iff_toInt_lt, h0] at b
      omega
theorem lfdiv_400 (x : Int64) : (lfdiv x (400 : Int64)).toInt = x.toInt / 400 := by
  have hq := c_ldiv x 400 400 (by decide) (by decide)
  have hr := c_lrem x 400 400 (by decide)
  rw [lrem_mod] at hr
  have h0 : (0 : Int64).toInt = 0 := by decide
  have h1 : (1 : Int64).toInt = 1 := by decide
  have hx := rng64 x
  simp only [lfdiv, lfdiv_25]
  by_cases a : (x % (400 : Int64)) = 0
  · rw [if_pos a]
    have a' : (x % (400 : Int64)).toInt = 0 := by rw [a]; exact h0
    omega
  · rw [if_neg a]
    have a' : (x % (400 : Int64)).toInt ≠ 0 := fun q => a (Int64.toInt_inj.mp (q.trans h0.symm))
    by_cases b : x < 0
    · rw [if_pos b]
      rw [Int64.lt_iff_toInt_lt, h0] at b
      have q := hq.2 b
      have e : (x / (400 : Int64) - 1).toInt = (x / (400 : Int64)).toInt - 1 := by
        have := own_lsub (a := x / (400 : Int64)) (b := 1) (by rw [h1]; omega) (by rw [h1]; omega)
        rw [this, h1]
      rw [e]
      omega
    · rw [if_neg b]
      rw [Int64.lt_iff_toInt_lt, h0] at b
      omega
theorem leaps_spec (x : Int64) (h1 : -18014398509481984 ≤ x.toInt) (h2 : x.toInt ≤ 18014398509481984) : (leaps x).toInt = x.toInt / 4 - x.toInt / 100 + x.toInt / 400 := by
  have k4 := lfdiv_4 x
  have k1 := lfdiv_100 x
  have k400 := lfdiv_400 x
  have e : ((lfdiv x (4 : Int64)) - (lfdiv x (100 : Int64))).toInt = x.toInt / 4 - x.toInt / 100 := by rw [own_lsub (by omega) (by omega), k4, k1]
  rw [leaps, own_ladd (by omega) (by omega), e, k400]
theorem leap_spec (y : Int64) : leap y = 0 ↔ ¬ (y.toInt % 4 = 0 ∧ (y.toInt % 100 ≠ 0 ∨ y.toInt % 400 = 0)) := by
  have k4 := rem0 y 4 4 (by decide) (by decide)
  have k100 := rem0 y 100 100 (by decide) (by decide)
  have k400 := rem0 y 400 400 (by decide) (by decide)
  have h30 : leap_30 = 1 := by decide
  have h34 : leap_34 = 0 := by decide
  rw [leap, h30, h34]
  by_cases q4 : y % 4 = 0
  · rw [if_pos q4]
    by_cases q100 : y % 100 = 0
    · rw [if_pos q100]
      by_cases q400 : y % 400 = 0
      · rw [if_pos q400]; exact ⟨fun q => absurd q (by decide), fun q => absurd ⟨k4.mp q4, Or.inr (k400.mp q400)⟩ q⟩
      · rw [if_neg q400]; exact ⟨fun _ z => z.2.elim (fun w => w (k100.mp q100)) (fun w => q400 (k400.mpr w)), fun _ => rfl⟩
    · rw [if_neg q100]; exact ⟨fun q => absurd q (by decide), fun q => absurd ⟨k4.mp q4, Or.inl (fun w => q100 (k100.mpr w))⟩ q⟩
  · rw [if_neg q4]; exact ⟨fun _ z => q4 (k4.mpr z.1), fun _ => rfl⟩
theorem own_mo {mo q1 : Int32} (e : mo = (((q1 &&& (2147483647 : Int32)) % (12 : Int32)) + (1 : Int32))) : (mo - (1 : Int32)).toInt = (((mo - 1).toInt.toNat : Nat) : Int) ∧ (mo - 1).toInt.toNat < 12 := by
  have h := c_mask q1 2147483647 31 (by decide) (by decide)
  have h2 := (c_irem (q1 &&& (2147483647 : Int32)) 12 12 (by decide)).1 (by omega)
  have h1 : (1 : Int32).toInt = 1 := by decide
  have k := c_iadd ((q1 &&& (2147483647 : Int32)) % (12 : Int32)) 1
  have k2 := rng32 (((q1 &&& (2147483647 : Int32)) % (12 : Int32)) + 1)
  rw [← e] at k k2
  have k3 := c_isub mo 1
  have k4 := rng32 (mo - 1)
  constructor <;> omega
theorem own_mo2 {mo q1 : Int32} (e : mo = (((q1 &&& (2147483647 : Int32)) % (12 : Int32)) + (1 : Int32))) : 1 ≤ mo.toInt ∧ mo.toInt ≤ 12 ∧ (mo - 1).toInt = mo.toInt - 1 := by
  have h := c_mask q1 2147483647 31 (by decide) (by decide)
  have h2 := (c_irem (q1 &&& (2147483647 : Int32)) 12 12 (by decide)).1 (by omega)
  have h1 : (1 : Int32).toInt = 1 := by decide
  have k := c_iadd ((q1 &&& (2147483647 : Int32)) % (12 : Int32)) 1
  have k2 := rng32 (((q1 &&& (2147483647 : Int32)) % (12 : Int32)) + 1)
  rw [← e] at k k2
  have k3 := c_isub mo 1
  have k4 := rng32 (mo - 1)
  refine ⟨?_, ?_, ?_⟩ <;> omega
theorem ep_ref (Y mo d c l : Int) (h1 : 1 ≤ mo) (h2 : mo ≤ 12) (hc : c = ((cumT (mo - 1).toNat).toInt)) (hl : (l = 0 ∧ (mo ≤ 2 ∨ ¬ (Y % 4 = 0 ∧ (Y % 100 ≠ 0 ∨ Y % 400 = 0)))) ∨ (l = 1 ∧ 2 < mo ∧ (Y % 4 = 0 ∧ (Y % 100 ≠ 0 ∨ Y % 400 = 0)))) :
    EP (Y - ((mo + 9) % 12) / 10) ((mo + 9) % 12) d = 365 * (Y - 1970) + ((Y - 1) / 4 - (Y - 1) / 100 + (Y - 1) / 400 - 477) + c + l + (d - 1) := by
  have hm : mo = 1 ∨ mo = 2 ∨ mo = 3 ∨ mo = 4 ∨ mo = 5 ∨ mo = 6 ∨ mo = 7 ∨ mo = 8 ∨ mo = 9 ∨ mo = 10 ∨ mo = 11 ∨ mo = 12 := by omega
  simp only [EP]
  rcases hm with rfl | rfl | rfl | rfl | rfl | rfl | rfl | rfl | rfl | rfl | rfl | rfl
  · have hc' : c = 0 := by rw [hc]; decide
    subst hc'
    clear hc
    omega
  · have hc' : c = 31 := by rw [hc]; decide
    subst hc'
    clear hc
    omega
  · have hc' : c = 59 := by rw [hc]; decide
    subst hc'
    clear hc
    omega
  · have hc' : c = 90 := by rw [hc]; decide
    subst hc'
    clear hc
    omega
  · have hc' : c = 120 := by rw [hc]; decide
    subst hc'
    clear hc
    omega
  · have hc' : c = 151 := by rw [hc]; decide
    subst hc'
    clear hc
    omega
  · have hc' : c = 181 := by rw [hc]; decide
    subst hc'
    clear hc
    omega
  · have hc' : c = 212 := by rw [hc]; decide
    subst hc'
    clear hc
    omega
  · have hc' : c = 243 := by rw [hc]; decide
    subst hc'
    clear hc
    omega
  · have hc' : c = 273 := by rw [hc]; decide
    subst hc'
    clear hc
    omega
  · have hc' : c = 304 := by rw [hc]; decide
    subst hc'
    clear hc
    omega
  · have hc' : c = 334 := by rw [hc]; decide
    subst hc'
    clear hc
    omega
theorem plain_eq {yr rf lb : Int64} {mo da q1 q2 : Int32} {q0 : Int64} {F : Nat → Int32} (eyr : yr = (q0 >>> ((10 : Int32) &&& 0x3f).toInt64)) (emo : mo = (((q1 &&& (2147483647 : Int32)) % (12 : Int32)) + (1 : Int32))) (eda : da = (q2 >>> ((1 : Int32) &&& 31))) (hcum : ∀ k, k < 12 → F k = cumT k)
    (erf : rf = ((((((365 : Int64) * (yr - (1970 : Int64))) + ((leaps (yr - (1 : Int64))) - (leaps (1969 : Int64)))) + ((F (mo - 1).toInt.toNat).toInt64)) + lb) + ((da.toInt64) - (1 : Int64))))
    (hlb : (lb.toInt = 0 ∧ (mo.toInt ≤ 2 ∨ ¬ (yr.toInt % 4 = 0 ∧ (yr.toInt % 100 ≠ 0 ∨ yr.toInt % 400 = 0)))) ∨ (lb.toInt = 1 ∧ 2 < mo.toInt ∧ (yr.toInt % 4 = 0 ∧ (yr.toInt % 100 ≠ 0 ∨ yr.toInt % 400 = 0)))) : (epof yr mo da) = rf := by
  have hY := c_lshr q0 10 10 (by decide)
  have hd := c_ishr q2 1 1 (by decide)
  rw [← eyr] at hY
  rw [← eda] at hd
  have r0 := rng64 q0
  have r2 := rng32 q2
  obtain ⟨m1, m2, m3⟩ := own_mo2 emo
  have hs := epof_spec yr mo da (by omega) (by omega) m1 m2 (by omega) (by omega)
  have hk := (own_mo emo).2
  rw [hcum _ hk] at erf
  obtain ⟨c, ec⟩ : ∃ c, c = cumT (mo - 1).toInt.toNat := ⟨_, rfl⟩
  rw [← ec] at erf
  have hr := ep_ref yr.toInt mo.toInt da.toInt c.toInt lb.toInt m1 m2 (by rw [ec, m3]) hlb
  have hcb : 0 ≤ c.toInt ∧ c.toInt ≤ 334 := by
    rw [ec]
    have : ∀ j : Fin 12, 0 ≤ (cumT j.val).toInt ∧ (cumT j.val).toInt ≤ 334 := by decide
    exact this ⟨_, hk⟩
  have lbb : 0 ≤ lb.toInt ∧ lb.toInt ≤ 1 := by rcases hlb with ⟨h, -⟩ | ⟨h, -⟩ <;> omega
  clear hlb hcum ec
  have t1970 : (1970 : Int64).toInt = 1970 := by decide
  have t1 : (1 : Int64).toInt = 1 := by decide
  have t365 : (365 : Int64).toInt = 365 := by decide
  have a1 : (yr - (1970 : Int64)).toInt = yr.toInt - 1970 := by rw [own_lsub (by rw [t1970]; omega) (by rw [t1970]; omega), t1970]
  have a2 : ((365 : Int64) * (yr - (1970 : Int64))).toInt = 365 * (yr.toInt - 1970) := own_lmul (by rw [t365, a1]) (by omega) (by omega)
  have a3 : (yr - (1 : Int64)).toInt = yr.toInt - 1 := by rw [own_lsub (by rw [t1]; omega) (by rw [t1]; omega), t1]
  have a4 := leaps_spec (yr - (1 : Int64)) (by omega) (by omega)
  have a5 : (leaps (1969 : Int64)).toInt = 477 := by decide +kernel
  rw [a3] at a4
  have a6 : ((leaps (yr - (1 : Int64))) - (leaps (1969 : Int64))).toInt = (yr.toInt - 1) / 4 - (yr.toInt - 1) / 100 + (yr.toInt - 1) / 400 - 477 := by rw [own_lsub (by rw [a4, a5]; omega) (by rw [a4, a5]; omega), a4, a5]
  have a7 : (((365 : Int64) * (yr - (1970 : Int64))) + ((leaps (yr - (1 : Int64))) - (leaps (1969 : Int64)))).toInt = 365 * (yr.toInt - 1970) + ((yr.toInt - 1) / 4 - (yr.toInt - 1) / 100 + (yr.toInt - 1) / 400 - 477) := by rw [own_ladd (by rw [a2, a6]; omega) (by rw [a2, a6]; omega), a2, a6]
  have a8 := c_i2l c
  have a9 : ((((365 : Int64) * (yr - (1970 : Int64))) + ((leaps (yr - (1 : Int64))) - (leaps (1969 : Int64)))) + (c.toInt64)).toInt = 365 * (yr.toInt - 1970) + ((yr.toInt - 1) / 4 - (yr.toInt - 1) / 100 + (yr.toInt - 1) / 400 - 477) + c.toInt := by rw [own_ladd (by rw [a7, a8]; omega) (by rw [a7, a8]; omega), a7, a8]
  have a10 : (((((365 : Int64) * (yr - (1970 : Int64))) + ((leaps (yr - (1 : Int64))) - (leaps (1969 : Int64)))) + (c.toInt64)) + lb).toInt = 365 * (yr.toInt - 1970) + ((yr.toInt - 1) / 4 - (yr.toInt - 1) / 100 + (yr.toInt - 1) / 400 - 477) + c.toInt + lb.toInt := by rw [own_ladd (by rw [a9]; omega) (by rw [a9]; omega), a9]
  have a11 := c_i2l da
  have a12 : ((da.toInt64) - (1 : Int64)).toInt = da.toInt - 1 := by rw [own_lsub (by rw [a11, t1]; omega) (by rw [a11, t1]; omega), a11, t1]
  apply Int64.toInt_inj.mp
  rw [erf, own_ladd (by rw [a10, a12]; omega) (by rw [a10, a12]; omega), a10, a12, hs, hr]
theorem gt2 {mo : Int32} (h : (2 : Int32) < mo) : 2 < mo.toInt := by
  rw [Int32.lt_iff_toInt_lt] at h
  have : (2 : Int32).toInt = 2 := by decide
  omega
theorem le2 {mo : Int32} (h : ¬ (2 : Int32) < mo) : mo.toInt ≤ 2 := by
  rw [Int32.lt_iff_toInt_lt] at h
  have : (2 : Int32).toInt = 2 := by decide
  omega
theorem pn_0 : plainName "com/example/exact_membership/exactmembership/model/EpochDaysOfPinLaw" = true := by first | (simp [plainName, overriddenIn]; done) | decide +kernel
theorem ef_0 (m : MethodId) (x0 : Int64) (x1 : Int32) (x2 : Int32) : entryFrame m #[(.long x0), (.int x1), (.int x2)] maxLocals = mkF m 0 #[.val (.long x0), .second, .val (.int x1), .val (.int x2), .unset, .unset, .unset, .unset, .unset, .unset, .unset, .unset, .unset] [] := by first | (simp [entryFrame, mkF, argsToLocals, Value.category, maxLocals]; done) | rfl
def QL (n0 : Nat) (v : Option Value) (h : Heap) (L : List Loc) : Prop := v = some (.int 1) ∧ Fr n0 L
set_option maxRecDepth 65536 in
set_option maxHeartbeats 40000000 in
theorem rm_law (l : Launch) (Z : State) (a0 : Array Value) (hw : ∀ d ∈ tables_1, d.before a0 Z = true) (ws : List Jvm.Cond) (q0 : Int64) (q1 : Int32) (q2 : Int32) (h0 : Heap) (n0 : Nat) (Z0 : n0 ≤ h0.size) :
    MetFree l x (head1 (Jvm.Cond.code x code maxLocals ret :: ws) room_1) (fun a_ U => a_ = #[(.long q0), (.int q1), (.int q2)] ∧ Z.Warmed39 U.vm ∧ U.heap = h0) (fun _ _ _ _ _ => True) (fun _ U o U' => ∃ v_ L_, o = .returned v_ ∧ QL n0 v_ U'.heap L_ ∧ FrameEnd U o U' L_ room_1.cells room_1.slots) := by
  refine MetFree.of_bodySF (plainFor_of_name pn_0) hisR ?_
  intro p e s m args below meth c s₁ Bd hml0 hP hK
  obtain ⟨rfl, hZ, hh⟩ := hP
  have hx := Bd.exec
  have hby := Bd.bytes
  have hlk : meth.locks = false := Bd.notSynchronized
  have hml : c.maxLocals = 13 := hml0
  have hown : s.vm.findClass "com/example/exact_membership/exactmembership/model/EpochDaysOfPinLaw" = some m.cls := findClass_of_methodNamed Bd.named
  have hnm := (name_of_methodNamed Bd.named Bd.method).1
  have X0 : Stand p l e room_1 s m #[(.long q0), (.int q1), (.int q2)] below meth c s₁ [] 0 0 := Stand.of_body Bd
  have e0 : s₁.heap = h0 := by rw [← hh, Bd.state]; rfl
  have N0 := Fr.nil n0
  have K0 : Keep h0 h0 [] := Keep.refl _ _
  show OEnds p e below s (QL n0) _ _ _
  refine own_by (fun t k => castTop (ef_0 m q0 q1 q2) k) ?_
  show OEnds p e below s _ _ _ (s₁.setTop (mkF m 0 #[.val (.long q0), .second, .val (.int q1), .val (.int q2), .unset, .unset, .unset, .unset, .unset, .unset, .unset, .unset, .unset] []))
  refine own_by (fun _ k => XS.lloadN X0.here hx rfl (hb hby at_0) rfl k) ?_
  show OEnds p e below s _ _ _ (s₁.setTop (mkF m 1 #[.val (.long q0), .second, .val (.int q1), .val (.int q2), .unset, .unset, .unset, .unset, .unset, .unset, .unset, .unset, .unset] [(.long q0)]))
  refine own_by (fun _ k => XS.bipush X0.here hx rfl (hb hby at_1) k) ?_
  show OEnds p e below s _ _ _ (s₁.setTop (mkF m 3 #[.val (.long q0), .second, .val (.int q1), .val (.int q2), .unset, .unset, .unset, .unset, .unset, .unset, .unset, .unset, .unset] [(.int (10 : Int32)), (.long q0)]))
  refine own_by (fun _ k => XS.lshr X0.here hx rfl (hb hby at_3) rfl k) ?_
  show OEnds p e below s _ _ _ (s₁.setTop (mkF m 4 #[.val (.long q0), .second, .val (.int q1), .val (.int q2), .unset, .unset, .unset, .unset, .unset, .unset, .unset, .unset, .unset] [(.long (q0 >>> ((10 : Int32) &&& 0x3f).toInt64))]))
  refine own_by (fun _ k => XS.lstore X0.here hx rfl (hb hby at_4) rfl (l' := #[.val (.long q0), .second, .val (.int q1), .val (.int q2), .val (.long (q0 >>> ((10 : Int32) &&& 0x3f).toInt64)), .second, .unset, .unset, .unset, .unset, .unset, .unset, .unset]) rfl k) ?_
  show OEnds p e below s _ _ _ (s₁.setTop (mkF m 6 #[.val (.long q0), .second, .val (.int q1), .val (.int q2), .val (.long (q0 >>> ((10 : Int32) &&& 0x3f).toInt64)), .second, .unset, .unset, .unset, .unset, .unset, .unset, .unset] []))
  refine own_by (fun _ k => XS.iloadN X0.here hx rfl (hb hby at_6) rfl k) ?_
  show OEnds p e below s _ _ _ (s₁.setTop (mkF m 7 #[.val (.long q0), .second, .val (.int q1), .val (.int q2), .val (.long (q0 >>> ((10 : Int32) &&& 0x3f).toInt64)), .second, .unset, .unset, .unset, .unset, .unset, .unset, .unset] [(.int q1)]))
  refine own_by (X0.ldcInt hx hown (mvT hZ (hw _ (List.mem_of_getElem? (i := 0) rfl))) (g := (mkF m 7 #[.val (.long q0), .second, .val (.int q1), .val (.int q2), .val (.long (q0 >>> ((10 : Int32) &&& 0x3f).toInt64)), .second, .unset, .unset, .unset, .unset, .unset, .unset, .unset] [(.int q1)])) rfl (hb hby at_7)) ?_
  show OEnds p e below s _ _ _ (s₁.setTop (mkF m 9 #[.val (.long q0), .second, .val (.int q1), .val (.int q2), .val (.long (q0 >>> ((10 : Int32) &&& 0x3f).toInt64)), .second, .unset, .unset, .unset, .unset, .unset, .unset, .unset] [(.int (2147483647 : Int32)), (.int q1)]))
  refine own_by (fun _ k => XS.iand X0.here hx rfl (hb hby at_9) rfl k) ?_
  show OEnds p e below s _ _ _ (s₁.setTop (mkF m 10 #[.val (.long q0), .second, .val (.int q1), .val (.int q2), .val (.long (q0 >>> ((10 : Int32) &&& 0x3f).toInt64)), .second, .unset, .unset, .unset, .unset, .unset, .unset, .unset] [(.int (q1 &&& (2147483647 : Int32)))]))
  refine own_by (fun _ k => XS.bipush X0.here hx rfl (hb hby at_10) k) ?_
  show OEnds p e below s _ _ _ (s₁.setTop (mkF m 12 #[.val (.long q0), .second, .val (.int q1), .val (.int q2), .val (.long (q0 >>> ((10 : Int32) &&& 0x3f).toInt64)), .second, .unset, .unset, .unset, .unset, .unset, .unset, .unset] [(.int (12 : Int32)), (.int (q1 &&& (2147483647 : Int32)))]))
  refine own_by (fun _ k => iremM X0 hx rfl (hb hby at_12) rfl (by decide) k) ?_
  show OEnds p e below s _ _ _ (s₁.setTop (mkF m 13 #[.val (.long q0), .second, .val (.int q1), .val (.int q2), .val (.long (q0 >>> ((10 : Int32) &&& 0x3f).toInt64)), .second, .unset, .unset, .unset, .unset, .unset, .unset, .unset] [(.int ((q1 &&& (2147483647 : Int32)) % (12 : Int32)))]))
  refine own_by (fun _ k => XS.iconst X0.here hx rfl (hb hby at_13) k) ?_
  show OEnds p e below s _ _ _ (s₁.setTop (mkF m 14 #[.val (.long q0), .second, .val (.int q1), .val (.int q2), .val (.long (q0 >>> ((10 : Int32) &&& 0x3f).toInt64)), .second, .unset, .unset, .unset, .unset, .unset, .unset, .unset] [(.int (1 : Int32)), (.int ((q1 &&& (2147483647 : Int32)) % (12 : Int32)))]))
  refine own_by (fun _ k => XS.iadd X0.here hx rfl (hb hby at_14) rfl k) ?_
  show OEnds p e below s _ _ _ (s₁.setTop (mkF m 15 #[.val (.long q0), .second, .val (.int q1), .val (.int q2), .val (.long (q0 >>> ((10 : Int32) &&& 0x3f).toInt64)), .second, .unset, .unset, .unset, .unset, .unset, .unset, .unset] [(.int (((q1 &&& (2147483647 : Int32)) % (12 : Int32)) + (1 : Int32)))]))
  refine own_by (fun _ k => XS.istore X0.here hx rfl (hb hby at_15) rfl (l' := #[.val (.long q0), .second, .val (.int q1), .val (.int q2), .val (.long (q0 >>> ((10 : Int32) &&& 0x3f).toInt64)), .second, .val (.int (((q1 &&& (2147483647 : Int32)) % (12 : Int32)) + (1 : Int32))), .unset, .unset, .unset, .unset, .unset, .unset]) rfl k) ?_
  show OEnds p e below s _ _ _ (s₁.setTop (mkF m 17 #[.val (.long q0), .second, .val (.int q1), .val (.int q2), .val (.long (q0 >>> ((10 : Int32) &&& 0x3f).toInt64)), .second, .val (.int (((q1 &&& (2147483647 : Int32)) % (12 : Int32)) + (1 : Int32))), .unset, .unset, .unset, .unset, .unset, .unset] []))
  refine own_by (fun _ k => XS.iloadN X0.here hx rfl (hb hby at_17) rfl k) ?_
  show OEnds p e below s _ _ _ (s₁.setTop (mkF m 18 #[.val (.long q0), .second, .val (.int q1), .val (.int q2), .val (.long (q0 >>> ((10 : Int32) &&& 0x3f).toInt64)), .second, .val (.int (((q1 &&& (2147483647 : Int32)) % (12 : Int32)) + (1 : Int32))), .unset, .unset, .unset, .unset, .unset, .unset] [(.int q2)]))
  refine own_by (fun _ k => XS.iconst X0.here hx rfl (hb hby at_18) k) ?_
  show OEnds p e below s _ _ _ (s₁.setTop (mkF m 19 #[.val (.long q0), .second, .val (.int q1), .val (.int q2), .val (.long (q0 >>> ((10 : Int32) &&& 0x3f).toInt64)), .second, .val (.int (((q1 &&& (2147483647 : Int32)) % (12 : Int32)) + (1 : Int32))), .unset, .unset, .unset, .unset, .unset, .unset] [(.int (1 : Int32)), (.int q2)]))
  refine own_by (fun _ k => XS.ishr X0.here hx rfl (hb hby at_19) rfl k) ?_
  show OEnds p e below s _ _ _ (s₁.setTop (mkF m 20 #[.val (.long q0), .second, .val (.int q1), .val (.int q2), .val (.long (q0 >>> ((10 : Int32) &&& 0x3f).toInt64)), .second, .val (.int (((q1 &&& (2147483647 : Int32)) % (12 : Int32)) + (1 : Int32))), .unset, .unset, .unset, .unset, .unset, .unset] [(.int (q2 >>> ((1 : Int32) &&& 31)))]))
  refine own_by (fun _ k => XS.istore X0.here hx rfl (hb hby at_20) rfl (l' := #[.val (.long q0), .second, .val (.int q1), .val (.int q2), .val (.long (q0 >>> ((10 : Int32) &&& 0x3f).toInt64)), .second, .val (.int (((q1 &&& (2147483647 : Int32)) % (12 : Int32)) + (1 : Int32))), .val (.int (q2 >>> ((1 : Int32) &&& 31))), .unset, .unset, .unset, .unset, .unset]) rfl k) ?_
  show OEnds p e below s _ _ _ (s₁.setTop (mkF m 22 #[.val (.long q0), .second, .val (.int q1), .val (.int q2), .val (.long (q0 >>> ((10 : Int32) &&& 0x3f).toInt64)), .second, .val (.int (((q1 &&& (2147483647 : Int32)) % (12 : Int32)) + (1 : Int32))), .val (.int (q2 >>> ((1 : Int32) &&& 31))), .unset, .unset, .unset, .unset, .unset] []))
  obtain ⟨yr, eyr⟩ : ∃ z, z = (q0 >>> ((10 : Int32) &&& 0x3f).toInt64) := ⟨_, rfl⟩
  rw [← eyr]
  obtain ⟨mo, emo⟩ : ∃ z, z = (((q1 &&& (2147483647 : Int32)) % (12 : Int32)) + (1 : Int32)) := ⟨_, rfl⟩
  rw [← emo]
  obtain ⟨da, eda⟩ : ∃ z, z = (q2 >>> ((1 : Int32) &&& 31)) := ⟨_, rfl⟩
  rw [← eda]
  show OEnds p e below s _ _ _ (s₁.setTop (mkF m 22 #[.val (.long q0), .second, .val (.int q1), .val (.int q2), .val (.long yr), .second, .val (.int mo), .val (.int da), .unset, .unset, .unset, .unset, .unset] []))
  refine own_by (fun _ k => XS.bipush X0.here hx rfl (hb hby at_22) k) ?_
  show OEnds p e below s _ _ _ (s₁.setTop (mkF m 24 #[.val (.long q0), .second, .val (.int q1), .val (.int q2), .val (.long yr), .second, .val (.int mo), .val (.int da), .unset, .unset, .unset, .unset, .unset] [(.int (12 : Int32))]))
  obtain ⟨T1, h1, k1, X1, e1, E1, A1, st1⟩ := newP X0 hx hZ (hw _ (List.mem_of_getElem? (i := 1) rfl)) e0 (g := (mkF m 24 #[.val (.long q0), .second, .val (.int q1), .val (.int q2), .val (.long yr), .second, .val (.int mo), .val (.int da), .unset, .unset, .unset, .unset, .unset] [(.int (12 : Int32))])) rfl (hb hby at_24) rfl (by decide) (cap := 12) (by decide) (by decide) (by decide) (by decide)
  obtain ⟨nb1, g1⟩ : ∃ z, z = h0.size := ⟨_, rfl⟩
  rw [← g1] at A1 st1
  refine own_by (st1) ?_
  have g_nb1 : n0 ≤ nb1 := Nat.le_trans Z0 (Nat.le_of_eq g1.symm)
  have Z1 : n0 ≤ h1.size := Nat.le_trans Z0 E1.1
  have F1 : FA Z h1 nb1 .int 12 (fun i => .int ((fun _ => (0 : Int32)) i)) := FA.new A1 (by decide) (by decide) rfl
  show OEnds p e below s _ _ _ (T1.setTop (mkF m 26 #[.val (.long q0), .second, .val (.int q1), .val (.int q2), .val (.long yr), .second, .val (.int mo), .val (.int da), .unset, .unset, .unset, .unset, .unset] [(.ref nb1)]))
  refine own_by (fun _ k => XS.dup X1.here hx rfl (hb hby at_26) rfl rfl k) ?_
  show OEnds p e below s _ _ _ (T1.setTop (mkF m 27 #[.val (.long q0), .second, .val (.int q1), .val (.int q2), .val (.long yr), .second, .val (.int mo), .val (.int da), .unset, .unset, .unset, .unset, .unset] [(.ref nb1), (.ref nb1)]))
  refine own_by (fun _ k => XS.iconst X1.here hx rfl (hb hby at_27) k) ?_
  show OEnds p e below s _ _ _ (T1.setTop (mkF m 28 #[.val (.long q0), .second, .val (.int q1), .val (.int q2), .val (.long yr), .second, .val (.int mo), .val (.int da), .unset, .unset, .unset, .unset, .unset] [(.int (0 : Int32)), (.ref nb1), (.ref nb1)]))
  refine own_by (fun _ k => XS.iconst X1.here hx rfl (hb hby at_28) k) ?_
  show OEnds p e below s _ _ _ (T1.setTop (mkF m 29 #[.val (.long q0), .second, .val (.int q1), .val (.int q2), .val (.long yr), .second, .val (.int mo), .val (.int da), .unset, .unset, .unset, .unset, .unset] [(.int (0 : Int32)), (.int (0 : Int32)), (.ref nb1), (.ref nb1)]))
  obtain ⟨T2, h2, X2, e2, W2, st2⟩ := own_iastore X1 hx hZ e1 F1 0 (by decide) (by decide) (g := (mkF m 29 #[.val (.long q0), .second, .val (.int q1), .val (.int q2), .val (.long yr), .second, .val (.int mo), .val (.int da), .unset, .unset, .unset, .unset, .unset] [(.int (0 : Int32)), (.int (0 : Int32)), (.ref nb1), (.ref nb1)])) rfl rfl (hb hby at_29)
  refine own_by (st2) ?_
  have F2 : FA Z h2 nb1 .int 12 (fun i => .int ((updI (fun _ => (0 : Int32)) 0 (0 : Int32)) i)) := F1.setI W2
  have N2 := Fr.snoc X2 N0 g_nb1
  have Z2 : n0 ≤ h2.size := Nat.le_trans Z1 (Keep.of_wr W2).1
  show OEnds p e below s _ _ _ (T2.setTop (mkF m 30 #[.val (.long q0), .second, .val (.int q1), .val (.int q2), .val (.long yr), .second, .val (.int mo), .val (.int da), .unset, .unset, .unset, .unset, .unset] [(.ref nb1)]))
  refine own_by (fun _ k => XS.dup X2.here hx rfl (hb hby at_30) rfl rfl k) ?_
  show OEnds p e below s _ _ _ (T2.setTop (mkF m 31 #[.val (.long q0), .second, .val (.int q1), .val (.int q2), .val (.long yr), .second, .val (.int mo), .val (.int da), .unset, .unset, .unset, .unset, .unset] [(.ref nb1), (.ref nb1)]))
  refine own_by (fun _ k => XS.iconst X2.here hx rfl (hb hby at_31) k) ?_
  show OEnds p e below s _ _ _ (T2.setTop (mkF m 32 #[.val (.long q0), .second, .val (.int q1), .val (.int q2), .val (.long yr), .second, .val (.int mo), .val (.int da), .unset, .unset, .unset, .unset, .unset] [(.int (1 : Int32)), (.ref nb1), (.ref nb1)]))
  refine own_by (fun _ k => XS.bipush X2.here hx rfl (hb hby at_32) k) ?_
  show OEnds p e below s _ _ _ (T2.setTop (mkF m 34 #[.val (.long q0), .second, .val (.int q1), .val (.int q2), .val (.long yr), .second, .val (.int mo), .val (.int da), .unset, .unset, .unset, .unset, .unset] [(.int (31 : Int32)), (.int (1 : Int32)), (.ref nb1), (.ref nb1)]))
  obtain ⟨T3, h3, X3, e3, W3, st3⟩ := own_iastore X2 hx hZ e2 F2 1 (by decide) (by decide) (g := (mkF m 34 #[.val (.long q0), .second, .val (.int q1), .val (.int q2), .val (.long yr), .second, .val (.int mo), .val (.int da), .unset, .unset, .unset, .unset, .unset] [(.int (31 : Int32)), (.int (1 : Int32)), (.ref nb1), (.ref nb1)])) rfl rfl (hb hby at_34)
  refine own_by (st3) ?_
  have F3 : FA Z h3 nb1 .int 12 (fun i => .int ((updI (updI (fun _ => (0 : Int32)) 0 (0 : Int32)) 1 (31 : Int32)) i)) := F2.setI W3
  obtain ⟨f3, ef3⟩ : ∃ f : Nat → Int32, f = (updI (updI (fun _ => (0 : Int32)) 0 (0 : Int32)) 1 (31 : Int32)) := ⟨_, rfl⟩
  rw [← ef3] at F3
  have N3 := Fr.snoc X3 N2 g_nb1
  have Z3 : n0 ≤ h3.size := Nat.le_trans Z2 (Keep.of_wr W3).1
  show OEnds p e below s _ _ _ (T3.setTop (mkF m 35 #[.val (.long q0), .second, .val (.int q1), .val (.int q2), .val (.long yr), .second, .val (.int mo), .val (.int da), .unset, .unset, .unset, .unset, .unset] [(.ref nb1)]))
  refine own_by (fun _ k => XS.dup X3.here hx rfl (hb hby at_35) rfl rfl k) ?_
  show OEnds p e below s _ _ _ (T3.setTop (mkF m 36 #[.val (.long q0), .second, .val (.int q1), .val (.int q2), .val (.long yr), .second, .val (.int mo), .val (.int da), .unset, .unset, .unset, .unset, .unset] [(.ref nb1), (.ref nb1)]))
  refine own_by (fun _ k => XS.iconst X3.here hx rfl (hb hby at_36) k) ?_
  show OEnds p e below s _ _ _ (T3.setTop (mkF m 37 #[.val (.long q0), .second, .val (.int q1), .val (.int q2), .val (.long yr), .second, .val (.int mo), .val (.int da), .unset, .unset, .unset, .unset, .unset] [(.int (2 : Int32)), (.ref nb1), (.ref nb1)]))
  refine own_by (fun _ k => XS.bipush X3.here hx rfl (hb hby at_37) k) ?_
  show OEnds p e below s _ _ _ (T3.setTop (mkF m 39 #[.val (.long q0), .second, .val (.int q1), .val (.int q2), .val (.long yr), .second, .val (.int mo), .val (.int da), .unset, .unset, .unset, .unset, .unset] [(.int (59 : Int32)), (.int (2 : Int32)), (.ref nb1), (.ref nb1)]))
  obtain ⟨T4, h4, X4, e4, W4, st4⟩ := own_iastore X3 hx hZ e3 F3 2 (by decide) (by decide) (g := (mkF m 39 #[.val (.long q0), .second, .val (.int q1), .val (.int q2), .val (.long yr), .second, .val (.int mo), .val (.int da), .unset, .unset, .unset, .unset, .unset] [(.int (59 : Int32)), (.int (2 : Int32)), (.ref nb1), (.ref nb1)])) rfl rfl (hb hby at_39)
  refine own_by (st4) ?_
  have F4 : FA Z h4 nb1 .int 12 (fun i => .int ((updI f3 2 (59 : Int32)) i)) := F3.setI W4
  have N4 := Fr.snoc X4 N3 g_nb1
  have Z4 : n0 ≤ h4.size := Nat.le_trans Z3 (Keep.of_wr W4).1
  show OEnds p e below s _ _ _ (T4.setTop (mkF m 40 #[.val (.long q0), .second, .val (.int q1), .val (.int q2), .val (.long yr), .second, .val (.int mo), .val (.int da), .unset, .unset, .unset, .unset, .unset] [(.ref nb1)]))
  refine own_by (fun _ k => XS.dup X4.here hx rfl (hb hby at_40) rfl rfl k) ?_
  show OEnds p e below s _ _ _ (T4.setTop (mkF m 41 #[.val (.long q0), .second, .val (.int q1), .val (.int q2), .val (.long yr), .second, .val (.int mo), .val (.int da), .unset, .unset, .unset, .unset, .unset] [(.ref nb1), (.ref nb1)]))
  refine own_by (fun _ k => XS.iconst X4.here hx rfl (hb hby at_41) k) ?_
  show OEnds p e below s _ _ _ (T4.setTop (mkF m 42 #[.val (.long q0), .second, .val (.int q1), .val (.int q2), .val (.long yr), .second, .val (.int mo), .val (.int da), .unset, .unset, .unset, .unset, .unset] [(.int (3 : Int32)), (.ref nb1), (.ref nb1)]))
  refine own_by (fun _ k => XS.bipush X4.here hx rfl (hb hby at_42) k) ?_
  show OEnds p e below s _ _ _ (T4.setTop (mkF m 44 #[.val (.long q0), .second, .val (.int q1), .val (.int q2), .val (.long yr), .second, .val (.int mo), .val (.int da), .unset, .unset, .unset, .unset, .unset] [(.int (90 : Int32)), (.int (3 : Int32)), (.ref nb1), (.ref nb1)]))
  obtain ⟨T5, h5, X5, e5, W5, st5⟩ := own_iastore X4 hx hZ e4 F4 3 (by decide) (by decide) (g := (mkF m 44 #[.val (.long q0), .second, .val (.int q1), .val (.int q2), .val (.long yr), .second, .val (.int mo), .val (.int da), .unset, .unset, .unset, .unset, .unset] [(.int (90 : Int32)), (.int (3 : Int32)), (.ref nb1), (.ref nb1)])) rfl rfl (hb hby at_44)
  refine own_by (st5) ?_
  have F5 : FA Z h5 nb1 .int 12 (fun i => .int ((updI (updI f3 2 (59 : Int32)) 3 (90 : Int32)) i)) := F4.setI W5
  have N5 := Fr.snoc X5 N4 g_nb1
  have Z5 : n0 ≤ h5.size := Nat.le_trans Z4 (Keep.of_wr W5).1
  show OEnds p e below s _ _ _ (T5.setTop (mkF m 45 #[.val (.long q0), .second, .val (.int q1), .val (.int q2), .val (.long yr), .second, .val (.int mo), .val (.int da), .unset, .unset, .unset, .unset, .unset] [(.ref nb1)]))
  refine own_by (fun _ k => XS.dup X5.here hx rfl (hb hby at_45) rfl rfl k) ?_
  show OEnds p e below s _ _ _ (T5.setTop (mkF m 46 #[.val (.long q0), .second, .val (.int q1), .val (.int q2), .val (.long yr), .second, .val (.int mo), .val (.int da), .unset, .unset, .unset, .unset, .unset] [(.ref nb1), (.ref nb1)]))
  refine own_by (fun _ k => XS.iconst X5.here hx rfl (hb hby at_46) k) ?_
  show OEnds p e below s _ _ _ (T5.setTop (mkF m 47 #[.val (.long q0), .second, .val (.int q1), .val (.int q2), .val (.long yr), .second, .val (.int mo), .val (.int da), .unset, .unset, .unset, .unset, .unset] [(.int (4 : Int32)), (.ref nb1), (.ref nb1)]))
  refine own_by (fun _ k => XS.bipush X5.here hx rfl (hb hby at_47) k) ?_
  show OEnds p e below s _ _ _ (T5.setTop (mkF m 49 #[.val (.long q0), .second, .val (.int q1), .val (.int q2), .val (.long yr), .second, .val (.int mo), .val (.int da), .unset, .unset, .unset, .unset, .unset] [(.int (120 : Int32)), (.int (4 : Int32)), (.ref nb1), (.ref nb1)]))
  obtain ⟨T6, h6, X6, e6, W6, st6⟩ := own_iastore X5 hx hZ e5 F5 4 (by decide) (by decide) (g := (mkF m 49 #[.val (.long q0), .second, .val (.int q1), .val (.int q2), .val (.long yr), .second, .val (.int mo), .val (.int da), .unset, .unset, .unset, .unset, .unset] [(.int (120 : Int32)), (.int (4 : Int32)), (.ref nb1), (.ref nb1)])) rfl rfl (hb hby at_49)
  refine own_by (st6) ?_
  have F6 : FA Z h6 nb1 .int 12 (fun i => .int ((updI (updI (updI f3 2 (59 : Int32)) 3 (90 : Int32)) 4 (120 : Int32)) i)) := F5.setI W6
  obtain ⟨f6, ef6⟩ : ∃ f : Nat → Int32, f = (updI (updI (updI f3 2 (59 : Int32)) 3 (90 : Int32)) 4 (120 : Int32)) := ⟨_, rfl⟩
  rw [← ef6] at F6
  have N6 := Fr.snoc X6 N5 g_nb1
  have Z6 : n0 ≤ h6.size := Nat.le_trans Z5 (Keep.of_wr W6).1
  show OEnds p e below s _ _ _ (T6.setTop (mkF m 50 #[.val (.long q0), .second, .val (.int q1), .val (.int q2), .val (.long yr), .second, .val (.int mo), .val (.int da), .unset, .unset, .unset, .unset, .unset] [(.ref nb1)]))
  refine own_by (fun _ k => XS.dup X6.here hx rfl (hb hby at_50) rfl rfl k) ?_
  show OEnds p e below s _ _ _ (T6.setTop (mkF m 51 #[.val (.long q0), .second, .val (.int q1), .val (.int q2), .val (.long yr), .second, .val (.int mo), .val (.int da), .unset, .unset, .unset, .unset, .unset] [(.ref nb1), (.ref nb1)]))
  refine own_by (fun _ k => XS.iconst X6.here hx rfl (hb hby at_51) k) ?_
  show OEnds p e below s _ _ _ (T6.setTop (mkF m 52 #[.val (.long q0), .second, .val (.int q1), .val (.int q2), .val (.long yr), .second, .val (.int mo), .val (.int da), .unset, .unset, .unset, .unset, .unset] [(.int (5 : Int32)), (.ref nb1), (.ref nb1)]))
  refine own_by (fun _ k => XS.sipush X6.here hx rfl (hb hby at_52) k) ?_
  show OEnds p e below s _ _ _ (T6.setTop (mkF m 55 #[.val (.long q0), .second, .val (.int q1), .val (.int q2), .val (.long yr), .second, .val (.int mo), .val (.int da), .unset, .unset, .unset, .unset, .unset] [(.int (151 : Int32)), (.int (5 : Int32)), (.ref nb1), (.ref nb1)]))
  obtain ⟨T7, h7, X7, e7, W7, st7⟩ := own_iastore X6 hx hZ e6 F6 5 (by decide) (by decide) (g := (mkF m 55 #[.val (.long q0), .second, .val (.int q1), .val (.int q2), .val (.long yr), .second, .val (.int mo), .val (.int da), .unset, .unset, .unset, .unset, .unset] [(.int (151 : Int32)), (.int (5 : Int32)), (.ref nb1), (.ref nb1)])) rfl rfl (hb hby at_55)
  refine own_by (st7) ?_
  have F7 : FA Z h7 nb1 .int 12 (fun i => .int ((updI f6 5 (151 : Int32)) i)) := F6.setI W7
  have N7 := Fr.snoc X7 N6 g_nb1
  have Z7 : n0 ≤ h7.size := Nat.le_trans Z6 (Keep.of_wr W7).1
  show OEnds p e below s _ _ _ (T7.setTop (mkF m 56 #[.val (.long q0), .second, .val (.int q1), .val (.int q2), .val (.long yr), .second, .val (.int mo), .val (.int da), .unset, .unset, .unset, .unset, .unset] [(.ref nb1)]))
  refine own_by (fun _ k => XS.dup X7.here hx rfl (hb hby at_56) rfl rfl k) ?_
  show OEnds p e below s _ _ _ (T7.setTop (mkF m 57 #[.val (.long q0), .second, .val (.int q1), .val (.int q2), .val (.long yr), .second, .val (.int mo), .val (.int da), .unset, .unset, .unset, .unset, .unset] [(.ref nb1), (.ref nb1)]))
  refine own_by (fun _ k => XS.bipush X7.here hx rfl (hb hby at_57) k) ?_
  show OEnds p e below s _ _ _ (T7.setTop (mkF m 59 #[.val (.long q0), .second, .val (.int q1), .val (.int q2), .val (.long yr), .second, .val (.int mo), .val (.int da), .unset, .unset, .unset, .unset, .unset] [(.int (6 : Int32)), (.ref nb1), (.ref nb1)]))
  refine own_by (fun _ k => XS.sipush X7.here hx rfl (hb hby at_59) k) ?_
  show OEnds p e below s _ _ _ (T7.setTop (mkF m 62 #[.val (.long q0), .second, .val (.int q1), .val (.int q2), .val (.long yr), .second, .val (.int mo), .val (.int da), .unset, .unset, .unset, .unset, .unset] [(.int (181 : Int32)), (.int (6 : Int32)), (.ref nb1), (.ref nb1)]))
  obtain ⟨T8, h8, X8, e8, W8, st8⟩ := own_iastore X7 hx hZ e7 F7 6 (by decide) (by decide) (g := (mkF m 62 #[.val (.long q0), .second, .val (.int q1), .val (.int q2), .val (.long yr), .second, .val (.int mo), .val (.int da), .unset, .unset, .unset, .unset, .unset] [(.int (181 : Int32)), (.int (6 : Int32)), (.ref nb1), (.ref nb1)])) rfl rfl (hb hby at_62)
  refine own_by (st8) ?_
  have F8 : FA Z h8 nb1 .int 12 (fun i => .int ((updI (updI f6 5 (151 : Int32)) 6 (181 : Int32)) i)) := F7.setI W8
  have N8 := Fr.snoc X8 N7 g_nb1
  have Z8 : n0 ≤ h8.size := Nat.le_trans Z7 (Keep.of_wr W8).1
  show OEnds p e below s _ _ _ (T8.setTop (mkF m 63 #[.val (.long q0), .second, .val (.int q1), .val (.int q2), .val (.long yr), .second, .val (.int mo), .val (.int da), .unset, .unset, .unset, .unset, .unset] [(.ref nb1)]))
  refine own_by (fun _ k => XS.dup X8.here hx rfl (hb hby at_63) rfl rfl k) ?_
  show OEnds p e below s _ _ _ (T8.setTop (mkF m 64 #[.val (.long q0), .second, .val (.int q1), .val (.int q2), .val (.long yr), .second, .val (.int mo), .val (.int da), .unset, .unset, .unset, .unset, .unset] [(.ref nb1), (.ref nb1)]))
  refine own_by (fun _ k => XS.bipush X8.here hx rfl (hb hby at_64) k) ?_
  show OEnds p e below s _ _ _ (T8.setTop (mkF m 66 #[.val (.long q0), .second, .val (.int q1), .val (.int q2), .val (.long yr), .second, .val (.int mo), .val (.int da), .unset, .unset, .unset, .unset, .unset] [(.int (7 : Int32)), (.ref nb1), (.ref nb1)]))
  refine own_by (fun _ k => XS.sipush X8.here hx rfl (hb hby at_66) k) ?_
  show OEnds p e below s _ _ _ (T8.setTop (mkF m 69 #[.val (.long q0), .second, .val (.int q1), .val (.int q2), .val (.long yr), .second, .val (.int mo), .val (.int da), .unset, .unset, .unset, .unset, .unset] [(.int (212 : Int32)), (.int (7 : Int32)), (.ref nb1), (.ref nb1)]))
  obtain ⟨T9, h9, X9, e9, W9, st9⟩ := own_iastore X8 hx hZ e8 F8 7 (by decide) (by decide) (g := (mkF m 69 #[.val (.long q0), .second, .val (.int q1), .val (.int q2), .val (.long yr), .second, .val (.int mo), .val (.int da), .unset, .unset, .unset, .unset, .unset] [(.int (212 : Int32)), (.int (7 : Int32)), (.ref nb1), (.ref nb1)])) rfl rfl (hb hby at_69)
  refine own_by (st9) ?_
  have F9 : FA Z h9 nb1 .int 12 (fun i => .int ((updI (updI (updI f6 5 (151 : Int32)) 6 (181 : Int32)) 7 (212 : Int32)) i)) := F8.setI W9
  obtain ⟨f9, ef9⟩ : ∃ f : Nat → Int32, f = (updI (updI (updI f6 5 (151 : Int32)) 6 (181 : Int32)) 7 (212 : Int32)) := ⟨_, rfl⟩
  rw [← ef9] at F9
  have N9 := Fr.snoc X9 N8 g_nb1
  have Z9 : n0 ≤ h9.size := Nat.le_trans Z8 (Keep.of_wr W9).1
  show OEnds p e below s _ _ _ (T9.setTop (mkF m 70 #[.val (.long q0), .second, .val (.int q1), .val (.int q2), .val (.long yr), .second, .val (.int mo), .val (.int da), .unset, .unset, .unset, .unset, .unset] [(.ref nb1)]))
  refine own_by (fun _ k => XS.dup X9.here hx rfl (hb hby at_70) rfl rfl k) ?_
  show OEnds p e below s _ _ _ (T9.setTop (mkF m 71 #[.val (.long q0), .second, .val (.int q1), .val (.int q2), .val (.long yr), .second, .val (.int mo), .val (.int da), .unset, .unset, .unset, .unset, .unset] [(.ref nb1), (.ref nb1)]))
  refine own_by (fun _ k => XS.bipush X9.here hx rfl (hb hby at_71) k) ?_
  show OEnds p e below s _ _ _ (T9.setTop (mkF m 73 #[.val (.long q0), .second, .val (.int q1), .val (.int q2), .val (.long yr), .second, .val (.int mo), .val (.int da), .unset, .unset, .unset, .unset, .unset] [(.int (8 : Int32)), (.ref nb1), (.ref nb1)]))
  refine own_by (fun _ k => XS.sipush X9.here hx rfl (hb hby at_73) k) ?_
  show OEnds p e below s _ _ _ (T9.setTop (mkF m 76 #[.val (.long q0), .second, .val (.int q1), .val (.int q2), .val (.long yr), .second, .val (.int mo), .val (.int da), .unset, .unset, .unset, .unset, .unset] [(.int (243 : Int32)), (.int (8 : Int32)), (.ref nb1), (.ref nb1)]))
  obtain ⟨T10, h10, X10, e10, W10, st10⟩ := own_iastore X9 hx hZ e9 F9 8 (by decide) (by decide) (g := (mkF m 76 #[.val (.long q0), .second, .val (.int q1), .val (.int q2), .val (.long yr), .second, .val (.int mo), .val (.int da), .unset, .unset, .unset, .unset, .unset] [(.int (243 : Int32)), (.int (8 : Int32)), (.ref nb1), (.ref nb1)])) rfl rfl (hb hby at_76)
  refine own_by (st10) ?_
  have F10 : FA Z h10 nb1 .int 12 (fun i => .int ((updI f9 8 (243 : Int32)) i)) := F9.setI W10
  have N10 := Fr.snoc X10 N9 g_nb1
  have Z10 : n0 ≤ h10.size := Nat.le_trans Z9 (Keep.of_wr W10).1
  show OEnds p e below s _ _ _ (T10.setTop (mkF m 77 #[.val (.long q0), .second, .val (.int q1), .val (.int q2), .val (.long yr), .second, .val (.int mo), .val (.int da), .unset, .unset, .unset, .unset, .unset] [(.ref nb1)]))
  refine own_by (fun _ k => XS.dup X10.here hx rfl (hb hby at_77) rfl rfl k) ?_
  show OEnds p e below s _ _ _ (T10.setTop (mkF m 78 #[.val (.long q0), .second, .val (.int q1), .val (.int q2), .val (.long yr), .second, .val (.int mo), .val (.int da), .unset, .unset, .unset, .unset, .unset] [(.ref nb1), (.ref nb1)]))
  refine own_by (fun _ k => XS.bipush X10.here hx rfl (hb hby at_78) k) ?_
  show OEnds p e below s _ _ _ (T10.setTop (mkF m 80 #[.val (.long q0), .second, .val (.int q1), .val (.int q2), .val (.long yr), .second, .val (.int mo), .val (.int da), .unset, .unset, .unset, .unset, .unset] [(.int (9 : Int32)), (.ref nb1), (.ref nb1)]))
  refine own_by (fun _ k => XS.sipush X10.here hx rfl (hb hby at_80) k) ?_
  show OEnds p e below s _ _ _ (T10.setTop (mkF m 83 #[.val (.long q0), .second, .val (.int q1), .val (.int q2), .val (.long yr), .second, .val (.int mo), .val (.int da), .unset, .unset, .unset, .unset, .unset] [(.int (273 : Int32)), (.int (9 : Int32)), (.ref nb1), (.ref nb1)]))
  obtain ⟨T11, h11, X11, e11, W11, st11⟩ := own_iastore X10 hx hZ e10 F10 9 (by decide) (by decide) (g := (mkF m 83 #[.val (.long q0), .second, .val (.int q1), .val (.int q2), .val (.long yr), .second, .val (.int mo), .val (.int da), .unset, .unset, .unset, .unset, .unset] [(.int (273 : Int32)), (.int (9 : Int32)), (.ref nb1), (.ref nb1)])) rfl rfl (hb hby at_83)
  refine own_by (st11) ?_
  have F11 : FA Z h11 nb1 .int 12 (fun i => .int ((updI (updI f9 8 (243 : Int32)) 9 (273 : Int32)) i)) := F10.setI W11
  have N11 := Fr.snoc X11 N10 g_nb1
  have Z11 : n0 ≤ h11.size := Nat.le_trans Z10 (Keep.of_wr W11).1
  show OEnds p e below s _ _ _ (T11.setTop (mkF m 84 #[.val (.long q0), .second, .val (.int q1), .val (.int q2), .val (.long yr), .second, .val (.int mo), .val (.int da), .unset, .unset, .unset, .unset, .unset] [(.ref nb1)]))
  refine own_by (fun _ k => XS.dup X11.here hx rfl (hb hby at_84) rfl rfl k) ?_
  show OEnds p e below s _ _ _ (T11.setTop (mkF m 85 #[.val (.long q0), .second, .val (.int q1), .val (.int q2), .val (.long yr), .second, .val (.int mo), .val (.int da), .unset, .unset, .unset, .unset, .unset] [(.ref nb1), (.ref nb1)]))
  refine own_by (fun _ k => XS.bipush X11.here hx rfl (hb hby at_85) k) ?_
  show OEnds p e below s _ _ _ (T11.setTop (mkF m 87 #[.val (.long q0), .second, .val (.int q1), .val (.int q2), .val (.long yr), .second, .val (.int mo), .val (.int da), .unset, .unset, .unset, .unset, .unset] [(.int (10 : Int32)), (.ref nb1), (.ref nb1)]))
  refine own_by (fun _ k => XS.sipush X11.here hx rfl (hb hby at_87) k) ?_
  show OEnds p e below s _ _ _ (T11.setTop (mkF m 90 #[.val (.long q0), .second, .val (.int q1), .val (.int q2), .val (.long yr), .second, .val (.int mo), .val (.int da), .unset, .unset, .unset, .unset, .unset] [(.int (304 : Int32)), (.int (10 : Int32)), (.ref nb1), (.ref nb1)]))
  obtain ⟨T12, h12, X12, e12, W12, st12⟩ := own_iastore X11 hx hZ e11 F11 10 (by decide) (by decide) (g := (mkF m 90 #[.val (.long q0), .second, .val (.int q1), .val (.int q2), .val (.long yr), .second, .val (.int mo), .val (.int da), .unset, .unset, .unset, .unset, .unset] [(.int (304 : Int32)), (.int (10 : Int32)), (.ref nb1), (.ref nb1)])) rfl rfl (hb hby at_90)
  refine own_by (st12) ?_
  have F12 : FA Z h12 nb1 .int 12 (fun i => .int ((updI (updI (updI f9 8 (243 : Int32)) 9 (273 : Int32)) 10 (304 : Int32)) i)) := F11.setI W12
  obtain ⟨f12, ef12⟩ : ∃ f : Nat → Int32, f = (updI (updI (updI f9 8 (243 : Int32)) 9 (273 : Int32)) 10 (304 : Int32)) := ⟨_, rfl⟩
  rw [← ef12] at F12
  have N12 := Fr.snoc X12 N11 g_nb1
  have Z12 : n0 ≤ h12.size := Nat.le_trans Z11 (Keep.of_wr W12).1
  show OEnds p e below s _ _ _ (T12.setTop (mkF m 91 #[.val (.long q0), .second, .val (.int q1), .val (.int q2), .val (.long yr), .second, .val (.int mo), .val (.int da), .unset, .unset, .unset, .unset, .unset] [(.ref nb1)]))
  refine own_by (fun _ k => XS.dup X12.here hx rfl (hb hby at_91) rfl rfl k) ?_
  show OEnds p e below s _ _ _ (T12.setTop (mkF m 92 #[.val (.long q0), .second, .val (.int q1), .val (.int q2), .val (.long yr), .second, .val (.int mo), .val (.int da), .unset, .unset, .unset, .unset, .unset] [(.ref nb1), (.ref nb1)]))
  refine own_by (fun _ k => XS.bipush X12.here hx rfl (hb hby at_92) k) ?_
  show OEnds p e below s _ _ _ (T12.setTop (mkF m 94 #[.val (.long q0), .second, .val (.int q1), .val (.int q2), .val (.long yr), .second, .val (.int mo), .val (.int da), .unset, .unset, .unset, .unset, .unset] [(.int (11 : Int32)), (.ref nb1), (.ref nb1)]))
  refine own_by (fun _ k => XS.sipush X12.here hx rfl (hb hby at_94) k) ?_
  show OEnds p e below s _ _ _ (T12.setTop (mkF m 97 #[.val (.long q0), .second, .val (.int q1), .val (.int q2), .val (.long yr), .second, .val (.int mo), .val (.int da), .unset, .unset, .unset, .unset, .unset] [(.int (334 : Int32)), (.int (11 : Int32)), (.ref nb1), (.ref nb1)]))
  obtain ⟨T13, h13, X13, e13, W13, st13⟩ := own_iastore X12 hx hZ e12 F12 11 (by decide) (by decide) (g := (mkF m 97 #[.val (.long q0), .second, .val (.int q1), .val (.int q2), .val (.long yr), .second, .val (.int mo), .val (.int da), .unset, .unset, .unset, .unset, .unset] [(.int (334 : Int32)), (.int (11 : Int32)), (.ref nb1), (.ref nb1)])) rfl rfl (hb hby at_97)
  refine own_by (st13) ?_
  have F13 : FA Z h13 nb1 .int 12 (fun i => .int ((updI f12 11 (334 : Int32)) i)) := F12.setI W13
  have N13 := Fr.snoc X13 N12 g_nb1
  have Z13 : n0 ≤ h13.size := Nat.le_trans Z12 (Keep.of_wr W13).1
  show OEnds p e below s _ _ _ (T13.setTop (mkF m 98 #[.val (.long q0), .second, .val (.int q1), .val (.int q2), .val (.long yr), .second, .val (.int mo), .val (.int da), .unset, .unset, .unset, .unset, .unset] [(.ref nb1)]))
  have hcum : ∀ k, k < 12 → (updI f12 11 (334 : Int32)) k = cumT k := by
    subst ef12 ef9 ef6 ef3
    decide
  show OEnds p e below s _ _ _ (T13.setTop (mkF m 98 #[.val (.long q0), .second, .val (.int q1), .val (.int q2), .val (.long yr), .second, .val (.int mo), .val (.int da), .unset, .unset, .unset, .unset, .unset] [(.ref nb1)]))
  refine own_by (fun _ k => XS.astore X13.here hx rfl (hb hby at_98) rfl rfl (l' := #[.val (.long q0), .second, .val (.int q1), .val (.int q2), .val (.long yr), .second, .val (.int mo), .val (.int da), .val (.ref nb1), .unset, .unset, .unset, .unset]) rfl k) ?_
  show OEnds p e below s _ _ _ (T13.setTop (mkF m 100 #[.val (.long q0), .second, .val (.int q1), .val (.int q2), .val (.long yr), .second, .val (.int mo), .val (.int da), .val (.ref nb1), .unset, .unset, .unset, .unset] []))
  refine own_by (X13.ldc2Long hx hown (mvT hZ (hw _ (List.mem_of_getElem? (i := 2) rfl))) (g := (mkF m 100 #[.val (.long q0), .second, .val (.int q1), .val (.int q2), .val (.long yr), .second, .val (.int mo), .val (.int da), .val (.ref nb1), .unset, .unset, .unset, .unset] [])) rfl (hb hby at_100)) ?_
  show OEnds p e below s _ _ _ (T13.setTop (mkF m 103 #[.val (.long q0), .second, .val (.int q1), .val (.int q2), .val (.long yr), .second, .val (.int mo), .val (.int da), .val (.ref nb1), .unset, .unset, .unset, .unset] [(.long (365 : Int64))]))
  refine own_by (fun _ k => XS.lload X13.here hx rfl (hb hby at_103) rfl k) ?_
  show OEnds p e below s _ _ _ (T13.setTop (mkF m 105 #[.val (.long q0), .second, .val (.int q1), .val (.int q2), .val (.long yr), .second, .val (.int mo), .val (.int da), .val (.ref nb1), .unset, .unset, .unset, .unset] [(.long yr), (.long (365 : Int64))]))
  refine own_by (X13.ldc2Long hx hown (mvT hZ (hw _ (List.mem_of_getElem? (i := 3) rfl))) (g := (mkF m 105 #[.val (.long q0), .second, .val (.int q1), .val (.int q2), .val (.long yr), .second, .val (.int mo), .val (.int da), .val (.ref nb1), .unset, .unset, .unset, .unset] [(.long yr), (.long (365 : Int64))])) rfl (hb hby at_105)) ?_
  show OEnds p e below s _ _ _ (T13.setTop (mkF m 108 #[.val (.long q0), .second, .val (.int q1), .val (.int q2), .val (.long yr), .second, .val (.int mo), .val (.int da), .val (.ref nb1), .unset, .unset, .unset, .unset] [(.long (1970 : Int64)), (.long yr), (.long (365 : Int64))]))
  refine own_by (fun _ k => XS.lsub X13.here hx rfl (hb hby at_108) rfl k) ?_
  show OEnds p e below s _ _ _ (T13.setTop (mkF m 109 #[.val (.long q0), .second, .val (.int q1), .val (.int q2), .val (.long yr), .second, .val (.int mo), .val (.int da), .val (.ref nb1), .unset, .unset, .unset, .unset] [(.long (yr - (1970 : Int64))), (.long (365 : Int64))]))
  refine own_by (fun _ k => XS.lmul X13.here hx rfl (hb hby at_109) rfl k) ?_
  show OEnds p e below s _ _ _ (T13.setTop (mkF m 110 #[.val (.long q0), .second, .val (.int q1), .val (.int q2), .val (.long yr), .second, .val (.int mo), .val (.int da), .val (.ref nb1), .unset, .unset, .unset, .unset] [(.long ((365 : Int64) * (yr - (1970 : Int64))))]))
  refine own_by (fun _ k => XS.lload X13.here hx rfl (hb hby at_110) rfl k) ?_
  show OEnds p e below s _ _ _ (T13.setTop (mkF m 112 #[.val (.long q0), .second, .val (.int q1), .val (.int q2), .val (.long yr), .second, .val (.int mo), .val (.int da), .val (.ref nb1), .unset, .unset, .unset, .unset] [(.long yr), (.long ((365 : Int64) * (yr - (1970 : Int64))))]))
  refine own_by (fun _ k => XS.lconst X13.here hx rfl (hb hby at_112) k) ?_
  show OEnds p e below s _ _ _ (T13.setTop (mkF m 113 #[.val (.long q0), .second, .val (.int q1), .val (.int q2), .val (.long yr), .second, .val (.int mo), .val (.int da), .val (.ref nb1), .unset, .unset, .unset, .unset] [(.long (1 : Int64)), (.long yr), (.long ((365 : Int64) * (yr - (1970 : Int64))))]))
  refine own_by (fun _ k => XS.lsub X13.here hx rfl (hb hby at_113) rfl k) ?_
  show OEnds p e below s _ _ _ (T13.setTop (mkF m 114 #[.val (.long q0), .second, .val (.int q1), .val (.int q2), .val (.long yr), .second, .val (.int mo), .val (.int da), .val (.ref nb1), .unset, .unset, .unset, .unset] [(.long (yr - (1 : Int64))), (.long ((365 : Int64) * (yr - (1970 : Int64))))]))
  obtain ⟨T14, X14, e14, st14⟩ := own_callP X13 hx hZ (y := (⟨"com/example/exact_membership/exactmembership/model/EpochDaysOfPinLaw", "leapsUpTo", "(J)J"⟩ : MethodName)) hown (hw _ (List.mem_of_getElem? (i := 4) rfl)) (hw _ (List.mem_of_getElem? (i := 5) rfl)) (hw _ (List.mem_of_getElem? (i := 6) rfl)) (hw _ (List.mem_of_getElem? (i := 7) rfl)) (by decide) (rm_leaps l Z a0 hw [] (yr - (1 : Int64)) h13) e13 (g := (mkF m 114 #[.val (.long q0), .second, .val (.int q1), .val (.int q2), .val (.long yr), .second, .val (.int mo), .val (.int da), .val (.ref nb1), .unset, .unset, .unset, .unset] [(.long (yr - (1 : Int64))), (.long ((365 : Int64) * (yr - (1970 : Int64))))])) rfl (by rw [hml]; rfl) (argsL := [(.long (yr - (1 : Int64)))]) (rest := [(.long ((365 : Int64) * (yr - (1970 : Int64))))]) (lenOf pd_pJrJ rfl) rfl (W := 2) (by show 2 * 0 + _ ≤ _; exact Nat.le_of_eq rfl) (hb hby at_114) (by decide) (by decide) (by decide) (by decide)
  refine own_by (st14) ?_
  show OEnds p e below s _ _ _ (T14.setTop (mkF m 117 #[.val (.long q0), .second, .val (.int q1), .val (.int q2), .val (.long yr), .second, .val (.int mo), .val (.int da), .val (.ref nb1), .unset, .unset, .unset, .unset] [(.long (leaps (yr - (1 : Int64)))), (.long ((365 : Int64) * (yr - (1970 : Int64))))]))
  refine own_by (X14.ldc2Long hx hown (mvT hZ (hw _ (List.mem_of_getElem? (i := 14) rfl))) (g := (mkF m 117 #[.val (.long q0), .second, .val (.int q1), .val (.int q2), .val (.long yr), .second, .val (.int mo), .val (.int da), .val (.ref nb1), .unset, .unset, .unset, .unset] [(.long (leaps (yr - (1 : Int64)))), (.long ((365 : Int64) * (yr - (1970 : Int64))))])) rfl (hb hby at_117)) ?_
  show OEnds p e below s _ _ _ (T14.setTop (mkF m 120 #[.val (.long q0), .second, .val (.int q1), .val (.int q2), .val (.long yr), .second, .val (.int mo), .val (.int da), .val (.ref nb1), .unset, .unset, .unset, .unset] [(.long (1969 : Int64)), (.long (leaps (yr - (1 : Int64)))), (.long ((365 : Int64) * (yr - (1970 : Int64))))]))
  obtain ⟨T15, X15, e15, st15⟩ := own_callP X14 hx hZ (y := (⟨"com/example/exact_membership/exactmembership/model/EpochDaysOfPinLaw", "leapsUpTo", "(J)J"⟩ : MethodName)) hown (hw _ (List.mem_of_getElem? (i := 4) rfl)) (hw _ (List.mem_of_getElem? (i := 5) rfl)) (hw _ (List.mem_of_getElem? (i := 6) rfl)) (hw _ (List.mem_of_getElem? (i := 7) rfl)) (by decide) (rm_leaps l Z a0 hw [] (1969 : Int64) h13) e14 (g := (mkF m 120 #[.val (.long q0), .second, .val (.int q1), .val (.int q2), .val (.long yr), .second, .val (.int mo), .val (.int da), .val (.ref nb1), .unset, .unset, .unset, .unset] [(.long (1969 : Int64)), (.long (leaps (yr - (1 : Int64)))), (.long ((365 : Int64) * (yr - (1970 : Int64))))])) rfl (by rw [hml]; rfl) (argsL := [(.long (1969 : Int64))]) (rest := [(.long (leaps (yr - (1 : Int64)))), (.long ((365 : Int64) * (yr - (1970 : Int64))))]) (lenOf pd_pJrJ rfl) rfl (W := 4) (by show 2 * 0 + _ ≤ _; exact Nat.le_of_eq rfl) (hb hby at_120) (by decide) (by decide) (by decide) (by decide)
  refine own_by (st15) ?_
  show OEnds p e below s _ _ _ (T15.setTop (mkF m 123 #[.val (.long q0), .second, .val (.int q1), .val (.int q2), .val (.long yr), .second, .val (.int mo), .val (.int da), .val (.ref nb1), .unset, .unset, .unset, .unset] [(.long (leaps (1969 : Int64))), (.long (leaps (yr - (1 : Int64)))), (.long ((365 : Int64) * (yr - (1970 : Int64))))]))
  refine own_by (fun _ k => XS.lsub X15.here hx rfl (hb hby at_123) rfl k) ?_
  show OEnds p e below s _ _ _ (T15.setTop (mkF m 124 #[.val (.long q0), .second, .val (.int q1), .val (.int q2), .val (.long yr), .second, .val (.int mo), .val (.int da), .val (.ref nb1), .unset, .unset, .unset, .unset] [(.long ((leaps (yr - (1 : Int64))) - (leaps (1969 : Int64)))), (.long ((365 : Int64) * (yr - (1970 : Int64))))]))
  refine own_by (fun _ k => XS.ladd X15.here hx rfl (hb hby at_124) rfl k) ?_
  show OEnds p e below s _ _ _ (T15.setTop (mkF m 125 #[.val (.long q0), .second, .val (.int q1), .val (.int q2), .val (.long yr), .second, .val (.int mo), .val (.int da), .val (.ref nb1), .unset, .unset, .unset, .unset] [(.long (((365 : Int64) * (yr - (1970 : Int64))) + ((leaps (yr - (1 : Int64))) - (leaps (1969 : Int64)))))]))
  refine own_by (fun _ k => XS.aload X15.here hx rfl (hb hby at_125) rfl rfl k) ?_
  show OEnds p e below s _ _ _ (T15.setTop (mkF m 127 #[.val (.long q0), .second, .val (.int q1), .val (.int q2), .val (.long yr), .second, .val (.int mo), .val (.int da), .val (.ref nb1), .unset, .unset, .unset, .unset] [(.ref nb1), (.long (((365 : Int64) * (yr - (1970 : Int64))) + ((leaps (yr - (1 : Int64))) - (leaps (1969 : Int64)))))]))
  refine own_by (fun _ k => XS.iload X15.here hx rfl (hb hby at_127) rfl k) ?_
  show OEnds p e below s _ _ _ (T15.setTop (mkF m 129 #[.val (.long q0), .second, .val (.int q1), .val (.int q2), .val (.long yr), .second, .val (.int mo), .val (.int da), .val (.ref nb1), .unset, .unset, .unset, .unset] [(.int mo), (.ref nb1), (.long (((365 : Int64) * (yr - (1970 : Int64))) + ((leaps (yr - (1 : Int64))) - (leaps (1969 : Int64)))))]))
  refine own_by (fun _ k => XS.iconst X15.here hx rfl (hb hby at_129) k) ?_
  show OEnds p e below s _ _ _ (T15.setTop (mkF m 130 #[.val (.long q0), .second, .val (.int q1), .val (.int q2), .val (.long yr), .second, .val (.int mo), .val (.int da), .val (.ref nb1), .unset, .unset, .unset, .unset] [(.int (1 : Int32)), (.int mo), (.ref nb1), (.long (((365 : Int64) * (yr - (1970 : Int64))) + ((leaps (yr - (1 : Int64))) - (leaps (1969 : Int64)))))]))
  refine own_by (fun _ k => XS.isub X15.here hx rfl (hb hby at_130) rfl k) ?_
  show OEnds p e below s _ _ _ (T15.setTop (mkF m 131 #[.val (.long q0), .second, .val (.int q1), .val (.int q2), .val (.long yr), .second, .val (.int mo), .val (.int da), .val (.ref nb1), .unset, .unset, .unset, .unset] [(.int (mo - (1 : Int32))), (.ref nb1), (.long (((365 : Int64) * (yr - (1970 : Int64))) + ((leaps (yr - (1 : Int64))) - (leaps (1969 : Int64)))))]))
  refine own_by (own_iaload X15 hx hZ e15 F13 (mo - 1).toInt.toNat (own_mo emo).1 (own_mo emo).2 rfl (g := (mkF m 131 #[.val (.long q0), .second, .val (.int q1), .val (.int q2), .val (.long yr), .second, .val (.int mo), .val (.int da), .val (.ref nb1), .unset, .unset, .unset, .unset] [(.int (mo - (1 : Int32))), (.ref nb1), (.long (((365 : Int64) * (yr - (1970 : Int64))) + ((leaps (yr - (1 : Int64))) - (leaps (1969 : Int64)))))])) rfl rfl (hb hby at_131)) ?_
  show OEnds p e below s _ _ _ (T15.setTop (mkF m 132 #[.val (.long q0), .second, .val (.int q1), .val (.int q2), .val (.long yr), .second, .val (.int mo), .val (.int da), .val (.ref nb1), .unset, .unset, .unset, .unset] [(.int ((updI f12 11 (334 : Int32)) (mo - 1).toInt.toNat)), (.long (((365 : Int64) * (yr - (1970 : Int64))) + ((leaps (yr - (1 : Int64))) - (leaps (1969 : Int64)))))]))
  refine own_by (fun _ k => XS.i2l X15.here hx rfl (hb hby at_132) rfl k) ?_
  show OEnds p e below s _ _ _ (T15.setTop (mkF m 133 #[.val (.long q0), .second, .val (.int q1), .val (.int q2), .val (.long yr), .second, .val (.int mo), .val (.int da), .val (.ref nb1), .unset, .unset, .unset, .unset] [(.long (((updI f12 11 (334 : Int32)) (mo - 1).toInt.toNat).toInt64)), (.long (((365 : Int64) * (yr - (1970 : Int64))) + ((leaps (yr - (1 : Int64))) - (leaps (1969 : Int64)))))]))
  refine own_by (fun _ k => XS.ladd X15.here hx rfl (hb hby at_133) rfl k) ?_
  show OEnds p e below s _ _ _ (T15.setTop (mkF m 134 #[.val (.long q0), .second, .val (.int q1), .val (.int q2), .val (.long yr), .second, .val (.int mo), .val (.int da), .val (.ref nb1), .unset, .unset, .unset, .unset] [(.long ((((365 : Int64) * (yr - (1970 : Int64))) + ((leaps (yr - (1 : Int64))) - (leaps (1969 : Int64)))) + (((updI f12 11 (334 : Int32)) (mo - 1).toInt.toNat).toInt64)))]))
  refine own_by (fun _ k => XS.iload X15.here hx rfl (hb hby at_134) rfl k) ?_
  show OEnds p e below s _ _ _ (T15.setTop (mkF m 136 #[.val (.long q0), .second, .val (.int q1), .val (.int q2), .val (.long yr), .second, .val (.int mo), .val (.int da), .val (.ref nb1), .unset, .unset, .unset, .unset] [(.int mo), (.long ((((365 : Int64) * (yr - (1970 : Int64))) + ((leaps (yr - (1 : Int64))) - (leaps (1969 : Int64)))) + (((updI f12 11 (334 : Int32)) (mo - 1).toInt.toNat).toInt64)))]))
  refine own_by (fun _ k => XS.iconst X15.here hx rfl (hb hby at_136) k) ?_
  show OEnds p e below s _ _ _ (T15.setTop (mkF m 137 #[.val (.long q0), .second, .val (.int q1), .val (.int q2), .val (.long yr), .second, .val (.int mo), .val (.int da), .val (.ref nb1), .unset, .unset, .unset, .unset] [(.int (2 : Int32)), (.int mo), (.long ((((365 : Int64) * (yr - (1970 : Int64))) + ((leaps (yr - (1 : Int64))) - (leaps (1969 : Int64)))) + (((updI f12 11 (334 : Int32)) (mo - 1).toInt.toNat).toInt64)))]))
  by_cases hc137_16 : (2 : Int32) < mo
  · refine own_by (fun _ k => XS.icmpNo X15.here hx rfl (hb hby at_137) rfl (tlt hc137_16).2.2.2 k) ?_
    show OEnds p e below s _ _ _ (T15.setTop (mkF m 140 #[.val (.long q0), .second, .val (.int q1), .val (.int q2), .val (.long yr), .second, .val (.int mo), .val (.int da), .val (.ref nb1), .unset, .unset, .unset, .unset] [(.long ((((365 : Int64) * (yr - (1970 : Int64))) + ((leaps (yr - (1 : Int64))) - (leaps (1969 : Int64)))) + (((updI f12 11 (334 : Int32)) (mo - 1).toInt.toNat).toInt64)))]))
    refine own_by (fun _ k => XS.lload X15.here hx rfl (hb hby at_140) rfl k) ?_
    show OEnds p e below s _ _ _ (T15.setTop (mkF m 142 #[.val (.long q0), .second, .val (.int q1), .val (.int q2), .val (.long yr), .second, .val (.int mo), .val (.int da), .val (.ref nb1), .unset, .unset, .unset, .unset] [(.long yr), (.long ((((365 : Int64) * (yr - (1970 : Int64))) + ((leaps (yr - (1 : Int64))) - (leaps (1969 : Int64)))) + (((updI f12 11 (334 : Int32)) (mo - 1).toInt.toNat).toInt64)))]))
    obtain ⟨T17, X17, e17, st17⟩ := own_callP X15 hx hZ (y := (⟨"com/example/exact_membership/exactmembership/model/EpochDaysOfPinLaw", "leap", "(J)Z"⟩ : MethodName)) hown (hw _ (List.mem_of_getElem? (i := 15) rfl)) (hw _ (List.mem_of_getElem? (i := 16) rfl)) (hw _ (List.mem_of_getElem? (i := 6) rfl)) (hw _ (List.mem_of_getElem? (i := 17) rfl)) (by decide) (rm_leap l Z a0 hw [] yr h13) e15 (g := (mkF m 142 #[.val (.long q0), .second, .val (.int q1), .val (.int q2), .val (.long yr), .second, .val (.int mo), .val (.int da), .val (.ref nb1), .unset, .unset, .unset, .unset] [(.long yr), (.long ((((365 : Int64) * (yr - (1970 : Int64))) + ((leaps (yr - (1 : Int64))) - (leaps (1969 : Int64)))) + (((updI f12 11 (334 : Int32)) (mo - 1).toInt.toNat).toInt64)))])) rfl (by rw [hml]; rfl) (argsL := [(.long yr)]) (rest := [(.long ((((365 : Int64) * (yr - (1970 : Int64))) + ((leaps (yr - (1 : Int64))) - (leaps (1969 : Int64)))) + (((updI f12 11 (334 : Int32)) (mo - 1).toInt.toNat).toInt64)))]) (lenOf pd_pJrZ rfl) rfl (W := 2) (by show 2 * 0 + _ ≤ _; exact Nat.le_of_eq rfl) (hb hby at_142) (by decide) (by decide) (by decide) (by decide)
    refine own_by (st17) ?_
    show OEnds p e below s _ _ _ (T17.setTop (mkF m 145 #[.val (.long q0), .second, .val (.int q1), .val (.int q2), .val (.long yr), .second, .val (.int mo), .val (.int da), .val (.ref nb1), .unset, .unset, .unset, .unset] [(.int (leap yr)), (.long ((((365 : Int64) * (yr - (1970 : Int64))) + ((leaps (yr - (1 : Int64))) - (leaps (1969 : Int64)))) + (((updI f12 11 (334 : Int32)) (mo - 1).toInt.toNat).toInt64)))]))
    by_cases hc145_18 : (leap yr) = (0 : Int32)
    · refine own_by (fun _ k => XS.ifYes X17.here hx rfl (pc0 := 145) (pc' := 152) rfl (hb hby at_145) rfl ((if0 _ _).trans (teq hc145_18).1) (by decide) (by decide) k) ?_
      show OEnds p e below s _ _ _ (T17.setTop (mkF m 152 #[.val (.long q0), .second, .val (.int q1), .val (.int q2), .val (.long yr), .second, .val (.int mo), .val (.int da), .val (.ref nb1), .unset, .unset, .unset, .unset] [(.long ((((365 : Int64) * (yr - (1970 : Int64))) + ((leaps (yr - (1 : Int64))) - (leaps (1969 : Int64)))) + (((updI f12 11 (334 : Int32)) (mo - 1).toInt.toNat).toInt64)))]))
      refine own_by (fun _ k => XS.lconst X17.here hx rfl (hb hby at_152) k) ?_
      show OEnds p e below s _ _ _ (T17.setTop (mkF m 153 #[.val (.long q0), .second, .val (.int q1), .val (.int q2), .val (.long yr), .second, .val (.int mo), .val (.int da), .val (.ref nb1), .unset, .unset, .unset, .unset] [(.long (0 : Int64)), (.long ((((365 : Int64) * (yr - (1970 : Int64))) + ((leaps (yr - (1 : Int64))) - (leaps (1969 : Int64)))) + (((updI f12 11 (334 : Int32)) (mo - 1).toInt.toNat).toInt64)))]))
      refine own_by (fun _ k => XS.ladd X17.here hx rfl (hb hby at_153) rfl k) ?_
      show OEnds p e below s _ _ _ (T17.setTop (mkF m 154 #[.val (.long q0), .second, .val (.int q1), .val (.int q2), .val (.long yr), .second, .val (.int mo), .val (.int da), .val (.ref nb1), .unset, .unset, .unset, .unset] [(.long (((((365 : Int64) * (yr - (1970 : Int64))) + ((leaps (yr - (1 : Int64))) - (leaps (1969 : Int64)))) + (((updI f12 11 (334 : Int32)) (mo - 1).toInt.toNat).toInt64)) + (0 : Int64)))]))
      refine own_by (fun _ k => XS.iload X17.here hx rfl (hb hby at_154) rfl k) ?_
      show OEnds p e below s _ _ _ (T17.setTop (mkF m 156 #[.val (.long q0), .second, .val (.int q1), .val (.int q2), .val (.long yr), .second, .val (.int mo), .val (.int da), .val (.ref nb1), .unset, .unset, .unset, .unset] [(.int da), (.long (((((365 : Int64) * (yr - (1970 : Int64))) + ((leaps (yr - (1 : Int64))) - (leaps (1969 : Int64)))) + (((updI f12 11 (334 : Int32)) (mo - 1).toInt.toNat).toInt64)) + (0 : Int64)))]))
      refine own_by (fun _ k => XS.i2l X17.here hx rfl (hb hby at_156) rfl k) ?_
      show OEnds p e below s _ _ _ (T17.setTop (mkF m 157 #[.val (.long q0), .second, .val (.int q1), .val (.int q2), .val (.long yr), .second, .val (.int mo), .val (.int da), .val (.ref nb1), .unset, .unset, .unset, .unset] [(.long (da.toInt64)), (.long (((((365 : Int64) * (yr - (1970 : Int64))) + ((leaps (yr - (1 : Int64))) - (leaps (1969 : Int64)))) + (((updI f12 11 (334 : Int32)) (mo - 1).toInt.toNat).toInt64)) + (0 : Int64)))]))
      refine own_by (fun _ k => XS.lconst X17.here hx rfl (hb hby at_157) k) ?_
      show OEnds p e below s _ _ _ (T17.setTop (mkF m 158 #[.val (.long q0), .second, .val (.int q1), .val (.int q2), .val (.long yr), .second, .val (.int mo), .val (.int da), .val (.ref nb1), .unset, .unset, .unset, .unset] [(.long (1 : Int64)), (.long (da.toInt64)), (.long (((((365 : Int64) * (yr - (1970 : Int64))) + ((leaps (yr - (1 : Int64))) - (leaps (1969 : Int64)))) + (((updI f12 11 (334 : Int32)) (mo - 1).toInt.toNat).toInt64)) + (0 : Int64)))]))
      refine own_by (fun _ k => XS.lsub X17.here hx rfl (hb hby at_158) rfl k) ?_
      show OEnds p e below s _ _ _ (T17.setTop (mkF m 159 #[.val (.long q0), .second, .val (.int q1), .val (.int q2), .val (.long yr), .second, .val (.int mo), .val (.int da), .val (.ref nb1), .unset, .unset, .unset, .unset] [(.long ((da.toInt64) - (1 : Int64))), (.long (((((365 : Int64) * (yr - (1970 : Int64))) + ((leaps (yr - (1 : Int64))) - (leaps (1969 : Int64)))) + (((updI f12 11 (334 : Int32)) (mo - 1).toInt.toNat).toInt64)) + (0 : Int64)))]))
      refine own_by (fun _ k => XS.ladd X17.here hx rfl (hb hby at_159) rfl k) ?_
      show OEnds p e below s _ _ _ (T17.setTop (mkF m 160 #[.val (.long q0), .second, .val (.int q1), .val (.int q2), .val (.long yr), .second, .val (.int mo), .val (.int da), .val (.ref nb1), .unset, .unset, .unset, .unset] [(.long ((((((365 : Int64) * (yr - (1970 : Int64))) + ((leaps (yr - (1 : Int64))) - (leaps (1969 : Int64)))) + (((updI f12 11 (334 : Int32)) (mo - 1).toInt.toNat).toInt64)) + (0 : Int64)) + ((da.toInt64) - (1 : Int64))))]))
      refine own_by (fun _ k => XS.lstore X17.here hx rfl (hb hby at_160) rfl (l' := #[.val (.long q0), .second, .val (.int q1), .val (.int q2), .val (.long yr), .second, .val (.int mo), .val (.int da), .val (.ref nb1), .val (.long ((((((365 : Int64) * (yr - (1970 : Int64))) + ((leaps (yr - (1 : Int64))) - (leaps (1969 : Int64)))) + (((updI f12 11 (334 : Int32)) (mo - 1).toInt.toNat).toInt64)) + (0 : Int64)) + ((da.toInt64) - (1 : Int64)))), .second, .unset, .unset]) rfl k) ?_
      show OEnds p e below s _ _ _ (T17.setTop (mkF m 162 #[.val (.long q0), .second, .val (.int q1), .val (.int q2), .val (.long yr), .second, .val (.int mo), .val (.int da), .val (.ref nb1), .val (.long ((((((365 : Int64) * (yr - (1970 : Int64))) + ((leaps (yr - (1 : Int64))) - (leaps (1969 : Int64)))) + (((updI f12 11 (334 : Int32)) (mo - 1).toInt.toNat).toInt64)) + (0 : Int64)) + ((da.toInt64) - (1 : Int64)))), .second, .unset, .unset] []))
      obtain ⟨rf, erf⟩ : ∃ z, z = ((((((365 : Int64) * (yr - (1970 : Int64))) + ((leaps (yr - (1 : Int64))) - (leaps (1969 : Int64)))) + (((updI f12 11 (334 : Int32)) (mo - 1).toInt.toNat).toInt64)) + (0 : Int64)) + ((da.toInt64) - (1 : Int64))) := ⟨_, rfl⟩
      rw [← erf]
      show OEnds p e below s _ _ _ (T17.setTop (mkF m 162 #[.val (.long q0), .second, .val (.int q1), .val (.int q2), .val (.long yr), .second, .val (.int mo), .val (.int da), .val (.ref nb1), .val (.long rf), .second, .unset, .unset] []))
      refine own_by (fun _ k => XS.lload X17.here hx rfl (hb hby at_162) rfl k) ?_
      show OEnds p e below s _ _ _ (T17.setTop (mkF m 164 #[.val (.long q0), .second, .val (.int q1), .val (.int q2), .val (.long yr), .second, .val (.int mo), .val (.int da), .val (.ref nb1), .val (.long rf), .second, .unset, .unset] [(.long yr)]))
      refine own_by (fun _ k => XS.iload X17.here hx rfl (hb hby at_164) rfl k) ?_
      show OEnds p e below s _ _ _ (T17.setTop (mkF m 166 #[.val (.long q0), .second, .val (.int q1), .val (.int q2), .val (.long yr), .second, .val (.int mo), .val (.int da), .val (.ref nb1), .val (.long rf), .second, .unset, .unset] [(.int mo), (.long yr)]))
      refine own_by (fun _ k => XS.iload X17.here hx rfl (hb hby at_166) rfl k) ?_
      show OEnds p e below s _ _ _ (T17.setTop (mkF m 168 #[.val (.long q0), .second, .val (.int q1), .val (.int q2), .val (.long yr), .second, .val (.int mo), .val (.int da), .val (.ref nb1), .val (.long rf), .second, .unset, .unset] [(.int da), (.int mo), (.long yr)]))
      obtain ⟨T19, X19, e19, st19⟩ := own_callP X17 hx hZ (y := (⟨"com/example/exact_membership/exactmembership/model/EpochDays", "of", "(JII)J"⟩ : MethodName)) hown (hw _ (List.mem_of_getElem? (i := 18) rfl)) (hw _ (List.mem_of_getElem? (i := 19) rfl)) (hw _ (List.mem_of_getElem? (i := 20) rfl)) (hw _ (List.mem_of_getElem? (i := 21) rfl)) (by decide) (rm_epof l Z a0 hw [] yr mo da h13) e17 (g := (mkF m 168 #[.val (.long q0), .second, .val (.int q1), .val (.int q2), .val (.long yr), .second, .val (.int mo), .val (.int da), .val (.ref nb1), .val (.long rf), .second, .unset, .unset] [(.int da), (.int mo), (.long yr)])) rfl (by rw [hml]; rfl) (argsL := [(.long yr), (.int mo), (.int da)]) (rest := []) (lenOf pd_pJIIrJ rfl) rfl (W := 0) (by show 2 * 0 + _ ≤ _; exact Nat.le_of_eq rfl) (hb hby at_168) (by decide) (by decide) (by decide) (by decide)
      refine own_by (st19) ?_
      show OEnds p e below s _ _ _ (T19.setTop (mkF m 171 #[.val (.long q0), .second, .val (.int q1), .val (.int q2), .val (.long yr), .second, .val (.int mo), .val (.int da), .val (.ref nb1), .val (.long rf), .second, .unset, .unset] [(.long (epof yr mo da))]))
      refine own_by (fun _ k => XS.lstore X19.here hx rfl (hb hby at_171) rfl (l' := #[.val (.long q0), .second, .val (.int q1), .val (.int q2), .val (.long yr), .second, .val (.int mo), .val (.int da), .val (.ref nb1), .val (.long rf), .second, .val (.long (epof yr mo da)), .second]) rfl k) ?_
      show OEnds p e below s _ _ _ (T19.setTop (mkF m 173 #[.val (.long q0), .second, .val (.int q1), .val (.int q2), .val (.long yr), .second, .val (.int mo), .val (.int da), .val (.ref nb1), .val (.long rf), .second, .val (.long (epof yr mo da)), .second] []))
      refine own_by (fun _ k => XS.lload X19.here hx rfl (hb hby at_173) rfl k) ?_
      show OEnds p e below s _ _ _ (T19.setTop (mkF m 175 #[.val (.long q0), .second, .val (.int q1), .val (.int q2), .val (.long yr), .second, .val (.int mo), .val (.int da), .val (.ref nb1), .val (.long rf), .second, .val (.long (epof yr mo da)), .second] [(.long (epof yr mo da))]))
      refine own_by (fun _ k => XS.lload X19.here hx rfl (hb hby at_175) rfl k) ?_
      show OEnds p e below s _ _ _ (T19.setTop (mkF m 177 #[.val (.long q0), .second, .val (.int q1), .val (.int q2), .val (.long yr), .second, .val (.int mo), .val (.int da), .val (.ref nb1), .val (.long rf), .second, .val (.long (epof yr mo da)), .second] [(.long rf), (.long (epof yr mo da))]))
      refine own_by (fun _ k => XS.lcmp X19.here hx rfl (hb hby at_177) rfl k) ?_
      show OEnds p e below s _ _ _ (T19.setTop (mkF m 178 #[.val (.long q0), .second, .val (.int q1), .val (.int q2), .val (.long yr), .second, .val (.int mo), .val (.int da), .val (.ref nb1), .val (.long rf), .second, .val (.long (epof yr mo da)), .second] [(.int (lcmpW (epof yr mo da) rf))]))
      refine own_by (fun _ k => XS.ifNo X19.here hx rfl (hb hby at_178) rfl ((if0 _ _).trans (teq ((lw_eq _ _).mpr (plain_eq eyr emo eda hcum erf (Or.inl ⟨by decide, Or.inr ((leap_spec _).mp hc145_18)⟩)))).2) k) ?_
      show OEnds p e below s _ _ _ (T19.setTop (mkF m 181 #[.val (.long q0), .second, .val (.int q1), .val (.int q2), .val (.long yr), .second, .val (.int mo), .val (.int da), .val (.ref nb1), .val (.long rf), .second, .val (.long (epof yr mo da)), .second] []))
      refine own_by (fun _ k => XS.iconst X19.here hx rfl (hb hby at_181) k) ?_
      show OEnds p e below s _ _ _ (T19.setTop (mkF m 182 #[.val (.long q0), .second, .val (.int q1), .val (.int q2), .val (.long yr), .second, .val (.int mo), .val (.int da), .val (.ref nb1), .val (.long rf), .second, .val (.long (epof yr mo da)), .second] [(.int (1 : Int32))]))
      refine own_by (fun _ k => XS.goto X19.here hx rfl (pc0 := 182) (pc' := 186) rfl (hb hby at_182) (by decide) (by decide) k) ?_
      show OEnds p e below s _ _ _ (T19.setTop (mkF m 186 #[.val (.long q0), .second, .val (.int q1), .val (.int q2), .val (.long yr), .second, .val (.int mo), .val (.int da), .val (.ref nb1), .val (.long rf), .second, .val (.long (epof yr mo da)), .second] [(.int (1 : Int32))]))
      exact own_retN X19 hx hlk .boolean (by simp) Bd.returns (hb hby at_186) ⟨rfl, N13⟩ (by decide) (by decide)
    · refine own_by (fun _ k => XS.ifNo X17.here hx rfl (hb hby at_145) rfl ((if0 _ _).trans (feq hc145_18).1) k) ?_
      show OEnds p e below s _ _ _ (T17.setTop (mkF m 148 #[.val (.long q0), .second, .val (.int q1), .val (.int q2), .val (.long yr), .second, .val (.int mo), .val (.int da), .val (.ref nb1), .unset, .unset, .unset, .unset] [(.long ((((365 : Int64) * (yr - (1970 : Int64))) + ((leaps (yr - (1 : Int64))) - (leaps (1969 : Int64)))) + (((updI f12 11 (334 : Int32)) (mo - 1).toInt.toNat).toInt64)))]))
      refine own_by (fun _ k => XS.lconst X17.here hx rfl (hb hby at_148) k) ?_
      show OEnds p e below s _ _ _ (T17.setTop (mkF m 149 #[.val (.long q0), .second, .val (.int q1), .val (.int q2), .val (.long yr), .second, .val (.int mo), .val (.int da), .val (.ref nb1), .unset, .unset, .unset, .unset] [(.long (1 : Int64)), (.long ((((365 : Int64) * (yr - (1970 : Int64))) + ((leaps (yr - (1 : Int64))) - (leaps (1969 : Int64)))) + (((updI f12 11 (334 : Int32)) (mo - 1).toInt.toNat).toInt64)))]))
      refine own_by (fun _ k => XS.goto X17.here hx rfl (pc0 := 149) (pc' := 153) rfl (hb hby at_149) (by decide) (by decide) k) ?_
      show OEnds p e below s _ _ _ (T17.setTop (mkF m 153 #[.val (.long q0), .second, .val (.int q1), .val (.int q2), .val (.long yr), .second, .val (.int mo), .val (.int da), .val (.ref nb1), .unset, .unset, .unset, .unset] [(.long (1 : Int64)), (.long ((((365 : Int64) * (yr - (1970 : Int64))) + ((leaps (yr - (1 : Int64))) - (leaps (1969 : Int64)))) + (((updI f12 11 (334 : Int32)) (mo - 1).toInt.toNat).toInt64)))]))
      refine own_by (fun _ k => XS.ladd X17.here hx rfl (hb hby at_153) rfl k) ?_
      show OEnds p e below s _ _ _ (T17.setTop (mkF m 154 #[.val (.long q0), .second, .val (.int q1), .val (.int q2), .val (.long yr), .second, .val (.int mo), .val (.int da), .val (.ref nb1), .unset, .unset, .unset, .unset] [(.long (((((365 : Int64) * (yr - (1970 : Int64))) + ((leaps (yr - (1 : Int64))) - (leaps (1969 : Int64)))) + (((updI f12 11 (334 : Int32)) (mo - 1).toInt.toNat).toInt64)) + (1 : Int64)))]))
      refine own_by (fun _ k => XS.iload X17.here hx rfl (hb hby at_154) rfl k) ?_
      show OEnds p e below s _ _ _ (T17.setTop (mkF m 156 #[.val (.long q0), .second, .val (.int q1), .val (.int q2), .val (.long yr), .second, .val (.int mo), .val (.int da), .val (.ref nb1), .unset, .unset, .unset, .unset] [(.int da), (.long (((((365 : Int64) * (yr - (1970 : Int64))) + ((leaps (yr - (1 : Int64))) - (leaps (1969 : Int64)))) + (((updI f12 11 (334 : Int32)) (mo - 1).toInt.toNat).toInt64)) + (1 : Int64)))]))
      refine own_by (fun _ k => XS.i2l X17.here hx rfl (hb hby at_156) rfl k) ?_
      show OEnds p e below s _ _ _ (T17.setTop (mkF m 157 #[.val (.long q0), .second, .val (.int q1), .val (.int q2), .val (.long yr), .second, .val (.int mo), .val (.int da), .val (.ref nb1), .unset, .unset, .unset, .unset] [(.long (da.toInt64)), (.long (((((365 : Int64) * (yr - (1970 : Int64))) + ((leaps (yr - (1 : Int64))) - (leaps (1969 : Int64)))) + (((updI f12 11 (334 : Int32)) (mo - 1).toInt.toNat).toInt64)) + (1 : Int64)))]))
      refine own_by (fun _ k => XS.lconst X17.here hx rfl (hb hby at_157) k) ?_
      show OEnds p e below s _ _ _ (T17.setTop (mkF m 158 #[.val (.long q0), .second, .val (.int q1), .val (.int q2), .val (.long yr), .second, .val (.int mo), .val (.int da), .val (.ref nb1), .unset, .unset, .unset, .unset] [(.long (1 : Int64)), (.long (da.toInt64)), (.long (((((365 : Int64) * (yr - (1970 : Int64))) + ((leaps (yr - (1 : Int64))) - (leaps (1969 : Int64)))) + (((updI f12 11 (334 : Int32)) (mo - 1).toInt.toNat).toInt64)) + (1 : Int64)))]))
      refine own_by (fun _ k => XS.lsub X17.here hx rfl (hb hby at_158) rfl k) ?_
      show OEnds p e below s _ _ _ (T17.setTop (mkF m 159 #[.val (.long q0), .second, .val (.int q1), .val (.int q2), .val (.long yr), .second, .val (.int mo), .val (.int da), .val (.ref nb1), .unset, .unset, .unset, .unset] [(.long ((da.toInt64) - (1 : Int64))), (.long (((((365 : Int64) * (yr - (1970 : Int64))) + ((leaps (yr - (1 : Int64))) - (leaps (1969 : Int64)))) + (((updI f12 11 (334 : Int32)) (mo - 1).toInt.toNat).toInt64)) + (1 : Int64)))]))
      refine own_by (fun _ k => XS.ladd X17.here hx rfl (hb hby at_159) rfl k) ?_
      show OEnds p e below s _ _ _ (T17.setTop (mkF m 160 #[.val (.long q0), .second, .val (.int q1), .val (.int q2), .val (.long yr), .second, .val (.int mo), .val (.int da), .val (.ref nb1), .unset, .unset, .unset, .unset] [(.long ((((((365 : Int64) * (yr - (1970 : Int64))) + ((leaps (yr - (1 : Int64))) - (leaps (1969 : Int64)))) + (((updI f12 11 (334 : Int32)) (mo - 1).toInt.toNat).toInt64)) + (1 : Int64)) + ((da.toInt64) - (1 : Int64))))]))
      refine own_by (fun _ k => XS.lstore X17.here hx rfl (hb hby at_160) rfl (l' := #[.val (.long q0), .second, .val (.int q1), .val (.int q2), .val (.long yr), .second, .val (.int mo), .val (.int da), .val (.ref nb1), .val (.long ((((((365 : Int64) * (yr - (1970 : Int64))) + ((leaps (yr - (1 : Int64))) - (leaps (1969 : Int64)))) + (((updI f12 11 (334 : Int32)) (mo - 1).toInt.toNat).toInt64)) + (1 : Int64)) + ((da.toInt64) - (1 : Int64)))), .second, .unset, .unset]) rfl k) ?_
      show OEnds p e below s _ _ _ (T17.setTop (mkF m 162 #[.val (.long q0), .second, .val (.int q1), .val (.int q2), .val (.long yr), .second, .val (.int mo), .val (.int da), .val (.ref nb1), .val (.long ((((((365 : Int64) * (yr - (1970 : Int64))) + ((leaps (yr - (1 : Int64))) - (leaps (1969 : Int64)))) + (((updI f12 11 (334 : Int32)) (mo - 1).toInt.toNat).toInt64)) + (1 : Int64)) + ((da.toInt64) - (1 : Int64)))), .second, .unset, .unset] []))
      obtain ⟨rf, erf⟩ : ∃ z, z = ((((((365 : Int64) * (yr - (1970 : Int64))) + ((leaps (yr - (1 : Int64))) - (leaps (1969 : Int64)))) + (((updI f12 11 (334 : Int32)) (mo - 1).toInt.toNat).toInt64)) + (1 : Int64)) + ((da.toInt64) - (1 : Int64))) := ⟨_, rfl⟩
      rw [← erf]
      show OEnds p e below s _ _ _ (T17.setTop (mkF m 162 #[.val (.long q0), .second, .val (.int q1), .val (.int q2), .val (.long yr), .second, .val (.int mo), .val (.int da), .val (.ref nb1), .val (.long rf), .second, .unset, .unset] []))
      refine own_by (fun _ k => XS.lload X17.here hx rfl (hb hby at_162) rfl k) ?_
      show OEnds p e below s _ _ _ (T17.setTop (mkF m 164 #[.val (.long q0), .second, .val (.int q1), .val (.int q2), .val (.long yr), .second, .val (.int mo), .val (.int da), .val (.ref nb1), .val (.long rf), .second, .unset, .unset] [(.long yr)]))
      refine own_by (fun _ k => XS.iload X17.here hx rfl (hb hby at_164) rfl k) ?_
      show OEnds p e below s _ _ _ (T17.setTop (mkF m 166 #[.val (.long q0), .second, .val (.int q1), .val (.int q2), .val (.long yr), .second, .val (.int mo), .val (.int da), .val (.ref nb1), .val (.long rf), .second, .unset, .unset] [(.int mo), (.long yr)]))
      refine own_by (fun _ k => XS.iload X17.here hx rfl (hb hby at_166) rfl k) ?_
      show OEnds p e below s _ _ _ (T17.setTop (mkF m 168 #[.val (.long q0), .second, .val (.int q1), .val (.int q2), .val (.long yr), .second, .val (.int mo), .val (.int da), .val (.ref nb1), .val (.long rf), .second, .unset, .unset] [(.int da), (.int mo), (.long yr)]))
      obtain ⟨T20, X20, e20, st20⟩ := own_callP X17 hx hZ (y := (⟨"com/example/exact_membership/exactmembership/model/EpochDays", "of", "(JII)J"⟩ : MethodName)) hown (hw _ (List.mem_of_getElem? (i := 18) rfl)) (hw _ (List.mem_of_getElem? (i := 19) rfl)) (hw _ (List.mem_of_getElem? (i := 20) rfl)) (hw _ (List.mem_of_getElem? (i := 21) rfl)) (by decide) (rm_epof l Z a0 hw [] yr mo da h13) e17 (g := (mkF m 168 #[.val (.long q0), .second, .val (.int q1), .val (.int q2), .val (.long yr), .second, .val (.int mo), .val (.int da), .val (.ref nb1), .val (.long rf), .second, .unset, .unset] [(.int da), (.int mo), (.long yr)])) rfl (by rw [hml]; rfl) (argsL := [(.long yr), (.int mo), (.int da)]) (rest := []) (lenOf pd_pJIIrJ rfl) rfl (W := 0) (by show 2 * 0 + _ ≤ _; exact Nat.le_of_eq rfl) (hb hby at_168) (by decide) (by decide) (by decide) (by decide)
      refine own_by (st20) ?_
      show OEnds p e below s _ _ _ (T20.setTop (mkF m 171 #[.val (.long q0), .second, .val (.int q1), .val (.int q2), .val (.long yr), .second, .val (.int mo), .val (.int da), .val (.ref nb1), .val (.long rf), .second, .unset, .unset] [(.long (epof yr mo da))]))
      refine own_by (fun _ k => XS.lstore X20.here hx rfl (hb hby at_171) rfl (l' := #[.val (.long q0), .second, .val (.int q1), .val (.int q2), .val (.long yr), .second, .val (.int mo), .val (.int da), .val (.ref nb1), .val (.long rf), .second, .val (.long (epof yr mo da)), .second]) rfl k) ?_
      show OEnds p e below s _ _ _ (T20.setTop (mkF m 173 #[.val (.long q0), .second, .val (.int q1), .val (.int q2), .val (.long yr), .second, .val (.int mo), .val (.int da), .val (.ref nb1), .val (.long rf), .second, .val (.long (epof yr mo da)), .second] []))
      refine own_by (fun _ k => XS.lload X20.here hx rfl (hb hby at_173) rfl k) ?_
      show OEnds p e below s _ _ _ (T20.setTop (mkF m 175 #[.val (.long q0), .second, .val (.int q1), .val (.int q2), .val (.long yr), .second, .val (.int mo), .val (.int da), .val (.ref nb1), .val (.long rf), .second, .val (.long (epof yr mo da)), .second] [(.long (epof yr mo da))]))
      refine own_by (fun _ k => XS.lload X20.here hx rfl (hb hby at_175) rfl k) ?_
      show OEnds p e below s _ _ _ (T20.setTop (mkF m 177 #[.val (.long q0), .second, .val (.int q1), .val (.int q2), .val (.long yr), .second, .val (.int mo), .val (.int da), .val (.ref nb1), .val (.long rf), .second, .val (.long (epof yr mo da)), .second] [(.long rf), (.long (epof yr mo da))]))
      refine own_by (fun _ k => XS.lcmp X20.here hx rfl (hb hby at_177) rfl k) ?_
      show OEnds p e below s _ _ _ (T20.setTop (mkF m 178 #[.val (.long q0), .second, .val (.int q1), .val (.int q2), .val (.long yr), .second, .val (.int mo), .val (.int da), .val (.ref nb1), .val (.long rf), .second, .val (.long (epof yr mo da)), .second] [(.int (lcmpW (epof yr mo da) rf))]))
      refine own_by (fun _ k => XS.ifNo X20.here hx rfl (hb hby at_178) rfl ((if0 _ _).trans (teq ((lw_eq _ _).mpr (plain_eq eyr emo eda hcum erf (Or.inr ⟨by decide, gt2 hc137_16, Classical.byContradiction fun z => hc145_18 ((leap_spec _).mpr z)⟩)))).2) k) ?_
      show OEnds p e below s _ _ _ (T20.setTop (mkF m 181 #[.val (.long q0), .second, .val (.int q1), .val (.int q2), .val (.long yr), .second, .val (.int mo), .val (.int da), .val (.ref nb1), .val (.long rf), .second, .val (.long (epof yr mo da)), .second] []))
      refine own_by (fun _ k => XS.iconst X20.here hx rfl (hb hby at_181) k) ?_
      show OEnds p e below s _ _ _ (T20.setTop (mkF m 182 #[.val (.long q0), .second, .val (.int q1), .val (.int q2), .val (.long yr), .second, .val (.int mo), .val (.int da), .val (.ref nb1), .val (.long rf), .second, .val (.long (epof yr mo da)), .second] [(.int (1 : Int32))]))
      refine own_by (fun _ k => XS.goto X20.here hx rfl (pc0 := 182) (pc' := 186) rfl (hb hby at_182) (by decide) (by decide) k) ?_
      show OEnds p e below s _ _ _ (T20.setTop (mkF m 186 #[.val (.long q0), .second, .val (.int q1), .val (.int q2), .val (.long yr), .second, .val (.int mo), .val (.int da), .val (.ref nb1), .val (.long rf), .second, .val (.long (epof yr mo da)), .second] [(.int (1 : Int32))]))
      exact own_retN X20 hx hlk .boolean (by simp) Bd.returns (hb hby at_186) ⟨rfl, N13⟩ (by decide) (by decide)
  · refine own_by (fun _ k => XS.icmpYes X15.here hx rfl (pc0 := 137) (pc' := 152) rfl (hb hby at_137) rfl (flt hc137_16).2.2.2 (by decide) (by decide) k) ?_
    show OEnds p e below s _ _ _ (T15.setTop (mkF m 152 #[.val (.long q0), .second, .val (.int q1), .val (.int q2), .val (.long yr), .second, .val (.int mo), .val (.int da), .val (.ref nb1), .unset, .unset, .unset, .unset] [(.long ((((365 : Int64) * (yr - (1970 : Int64))) + ((leaps (yr - (1 : Int64))) - (leaps (1969 : Int64)))) + (((updI f12 11 (334 : Int32)) (mo - 1).toInt.toNat).toInt64)))]))
    refine own_by (fun _ k => XS.lconst X15.here hx rfl (hb hby at_152) k) ?_
    show OEnds p e below s _ _ _ (T15.setTop (mkF m 153 #[.val (.long q0), .second, .val (.int q1), .val (.int q2), .val (.long yr), .second, .val (.int mo), .val (.int da), .val (.ref nb1), .unset, .unset, .unset, .unset] [(.long (0 : Int64)), (.long ((((365 : Int64) * (yr - (1970 : Int64))) + ((leaps (yr - (1 : Int64))) - (leaps (1969 : Int64)))) + (((updI f12 11 (334 : Int32)) (mo - 1).toInt.toNat).toInt64)))]))
    refine own_by (fun _ k => XS.ladd X15.here hx rfl (hb hby at_153) rfl k) ?_
    show OEnds p e below s _ _ _ (T15.setTop (mkF m 154 #[.val (.long q0), .second, .val (.int q1), .val (.int q2), .val (.long yr), .second, .val (.int mo), .val (.int da), .val (.ref nb1), .unset, .unset, .unset, .unset] [(.long (((((365 : Int64) * (yr - (1970 : Int64))) + ((leaps (yr - (1 : Int64))) - (leaps (1969 : Int64)))) + (((updI f12 11 (334 : Int32)) (mo - 1).toInt.toNat).toInt64)) + (0 : Int64)))]))
    refine own_by (fun _ k => XS.iload X15.here hx rfl (hb hby at_154) rfl k) ?_
    show OEnds p e below s _ _ _ (T15.setTop (mkF m 156 #[.val (.long q0), .second, .val (.int q1), .val (.int q2), .val (.long yr), .second, .val (.int mo), .val (.int da), .val (.ref nb1), .unset, .unset, .unset, .unset] [(.int da), (.long (((((365 : Int64) * (yr - (1970 : Int64))) + ((leaps (yr - (1 : Int64))) - (leaps (1969 : Int64)))) + (((updI f12 11 (334 : Int32)) (mo - 1).toInt.toNat).toInt64)) + (0 : Int64)))]))
    refine own_by (fun _ k => XS.i2l X15.here hx rfl (hb hby at_156) rfl k) ?_
    show OEnds p e below s _ _ _ (T15.setTop (mkF m 157 #[.val (.long q0), .second, .val (.int q1), .val (.int q2), .val (.long yr), .second, .val (.int mo), .val (.int da), .val (.ref nb1), .unset, .unset, .unset, .unset] [(.long (da.toInt64)), (.long (((((365 : Int64) * (yr - (1970 : Int64))) + ((leaps (yr - (1 : Int64))) - (leaps (1969 : Int64)))) + (((updI f12 11 (334 : Int32)) (mo - 1).toInt.toNat).toInt64)) + (0 : Int64)))]))
    refine own_by (fun _ k => XS.lconst X15.here hx rfl (hb hby at_157) k) ?_
    show OEnds p e below s _ _ _ (T15.setTop (mkF m 158 #[.val (.long q0), .second, .val (.int q1), .val (.int q2), .val (.long yr), .second, .val (.int mo), .val (.int da), .val (.ref nb1), .unset, .unset, .unset, .unset] [(.long (1 : Int64)), (.long (da.toInt64)), (.long (((((365 : Int64) * (yr - (1970 : Int64))) + ((leaps (yr - (1 : Int64))) - (leaps (1969 : Int64)))) + (((updI f12 11 (334 : Int32)) (mo - 1).toInt.toNat).toInt64)) + (0 : Int64)))]))
    refine own_by (fun _ k => XS.lsub X15.here hx rfl (hb hby at_158) rfl k) ?_
    show OEnds p e below s _ _ _ (T15.setTop (mkF m 159 #[.val (.long q0), .second, .val (.int q1), .val (.int q2), .val (.long yr), .second, .val (.int mo), .val (.int da), .val (.ref nb1), .unset, .unset, .unset, .unset] [(.long ((da.toInt64) - (1 : Int64))), (.long (((((365 : Int64) * (yr - (1970 : Int64))) + ((leaps (yr - (1 : Int64))) - (leaps (1969 : Int64)))) + (((updI f12 11 (334 : Int32)) (mo - 1).toInt.toNat).toInt64)) + (0 : Int64)))]))
    refine own_by (fun _ k => XS.ladd X15.here hx rfl (hb hby at_159) rfl k) ?_
    show OEnds p e below s _ _ _ (T15.setTop (mkF m 160 #[.val (.long q0), .second, .val (.int q1), .val (.int q2), .val (.long yr), .second, .val (.int mo), .val (.int da), .val (.ref nb1), .unset, .unset, .unset, .unset] [(.long ((((((365 : Int64) * (yr - (1970 : Int64))) + ((leaps (yr - (1 : Int64))) - (leaps (1969 : Int64)))) + (((updI f12 11 (334 : Int32)) (mo - 1).toInt.toNat).toInt64)) + (0 : Int64)) + ((da.toInt64) - (1 : Int64))))]))
    refine own_by (fun _ k => XS.lstore X15.here hx rfl (hb hby at_160) rfl (l' := #[.val (.long q0), .second, .val (.int q1), .val (.int q2), .val (.long yr), .second, .val (.int mo), .val (.int da), .val (.ref nb1), .val (.long ((((((365 : Int64) * (yr - (1970 : Int64))) + ((leaps (yr - (1 : Int64))) - (leaps (1969 : Int64)))) + (((updI f12 11 (334 : Int32)) (mo - 1).toInt.toNat).toInt64)) + (0 : Int64)) + ((da.toInt64) - (1 : Int64)))), .second, .unset, .unset]) rfl k) ?_
    show OEnds p e below s _ _ _ (T15.setTop (mkF m 162 #[.val (.long q0), .second, .val (.int q1), .val (.int q2), .val (.long yr), .second, .val (.int mo), .val (.int da), .val (.ref nb1), .val (.long ((((((365 : Int64) * (yr - (1970 : Int64))) + ((leaps (yr - (1 : Int64))) - (leaps (1969 : Int64)))) + (((updI f12 11 (334 : Int32)) (mo - 1).toInt.toNat).toInt64)) + (0 : Int64)) + ((da.toInt64) - (1 : Int64)))), .second, .unset, .unset] []))
    obtain ⟨rf, erf⟩ : ∃ z, z = ((((((365 : Int64) * (yr - (1970 : Int64))) + ((leaps (yr - (1 : Int64))) - (leaps (1969 : Int64)))) + (((updI f12 11 (334 : Int32)) (mo - 1).toInt.toNat).toInt64)) + (0 : Int64)) + ((da.toInt64) - (1 : Int64))) := ⟨_, rfl⟩
    rw [← erf]
    show OEnds p e below s _ _ _ (T15.setTop (mkF m 162 #[.val (.long q0), .second, .val (.int q1), .val (.int q2), .val (.long yr), .second, .val (.int mo), .val (.int da), .val (.ref nb1), .val (.long rf), .second, .unset, .unset] []))
    refine own_by (fun _ k => XS.lload X15.here hx rfl (hb hby at_162) rfl k) ?_
    show OEnds p e below s _ _ _ (T15.setTop (mkF m 164 #[.val (.long q0), .second, .val (.int q1), .val (.int q2), .val (.long yr), .second, .val (.int mo), .val (.int da), .val (.ref nb1), .val (.long rf), .second, .unset, .unset] [(.long yr)]))
    refine own_by (fun _ k => XS.iload X15.here hx rfl (hb hby at_164) rfl k) ?_
    show OEnds p e below s _ _ _ (T15.setTop (mkF m 166 #[.val (.long q0), .second, .val (.int q1), .val (.int q2), .val (.long yr), .second, .val (.int mo), .val (.int da), .val (.ref nb1), .val (.long rf), .second, .unset, .unset] [(.int mo), (.long yr)]))
    refine own_by (fun _ k => XS.iload X15.here hx rfl (hb hby at_166) rfl k) ?_
    show OEnds p e below s _ _ _ (T15.setTop (mkF m 168 #[.val (.long q0), .second, .val (.int q1), .val (.int q2), .val (.long yr), .second, .val (.int mo), .val (.int da), .val (.ref nb1), .val (.long rf), .second, .unset, .unset] [(.int da), (.int mo), (.long yr)]))
    obtain ⟨T21, X21, e21, st21⟩ := own_callP X15 hx hZ (y := (⟨"com/example/exact_membership/exactmembership/model/EpochDays", "of", "(JII)J"⟩ : MethodName)) hown (hw _ (List.mem_of_getElem? (i := 18) rfl)) (hw _ (List.mem_of_getElem? (i := 19) rfl)) (hw _ (List.mem_of_getElem? (i := 20) rfl)) (hw _ (List.mem_of_getElem? (i := 21) rfl)) (by decide) (rm_epof l Z a0 hw [] yr mo da h13) e15 (g := (mkF m 168 #[.val (.long q0), .second, .val (.int q1), .val (.int q2), .val (.long yr), .second, .val (.int mo), .val (.int da), .val (.ref nb1), .val (.long rf), .second, .unset, .unset] [(.int da), (.int mo), (.long yr)])) rfl (by rw [hml]; rfl) (argsL := [(.long yr), (.int mo), (.int da)]) (rest := []) (lenOf pd_pJIIrJ rfl) rfl (W := 0) (by show 2 * 0 + _ ≤ _; exact Nat.le_of_eq rfl) (hb hby at_168) (by decide) (by decide) (by decide) (by decide)
    refine own_by (st21) ?_
    show OEnds p e below s _ _ _ (T21.setTop (mkF m 171 #[.val (.long q0), .second, .val (.int q1), .val (.int q2), .val (.long yr), .second, .val (.int mo), .val (.int da), .val (.ref nb1), .val (.long rf), .second, .unset, .unset] [(.long (epof yr mo da))]))
    refine own_by (fun _ k => XS.lstore X21.here hx rfl (hb hby at_171) rfl (l' := #[.val (.long q0), .second, .val (.int q1), .val (.int q2), .val (.long yr), .second, .val (.int mo), .val (.int da), .val (.ref nb1), .val (.long rf), .second, .val (.long (epof yr mo da)), .second]) rfl k) ?_
    show OEnds p e below s _ _ _ (T21.setTop (mkF m 173 #[.val (.long q0), .second, .val (.int q1), .val (.int q2), .val (.long yr), .second, .val (.int mo), .val (.int da), .val (.ref nb1), .val (.long rf), .second, .val (.long (epof yr mo da)), .second] []))
    refine own_by (fun _ k => XS.lload X21.here hx rfl (hb hby at_173) rfl k) ?_
    show OEnds p e below s _ _ _ (T21.setTop (mkF m 175 #[.val (.long q0), .second, .val (.int q1), .val (.int q2), .val (.long yr), .second, .val (.int mo), .val (.int da), .val (.ref nb1), .val (.long rf), .second, .val (.long (epof yr mo da)), .second] [(.long (epof yr mo da))]))
    refine own_by (fun _ k => XS.lload X21.here hx rfl (hb hby at_175) rfl k) ?_
    show OEnds p e below s _ _ _ (T21.setTop (mkF m 177 #[.val (.long q0), .second, .val (.int q1), .val (.int q2), .val (.long yr), .second, .val (.int mo), .val (.int da), .val (.ref nb1), .val (.long rf), .second, .val (.long (epof yr mo da)), .second] [(.long rf), (.long (epof yr mo da))]))
    refine own_by (fun _ k => XS.lcmp X21.here hx rfl (hb hby at_177) rfl k) ?_
    show OEnds p e below s _ _ _ (T21.setTop (mkF m 178 #[.val (.long q0), .second, .val (.int q1), .val (.int q2), .val (.long yr), .second, .val (.int mo), .val (.int da), .val (.ref nb1), .val (.long rf), .second, .val (.long (epof yr mo da)), .second] [(.int (lcmpW (epof yr mo da) rf))]))
    refine own_by (fun _ k => XS.ifNo X21.here hx rfl (hb hby at_178) rfl ((if0 _ _).trans (teq ((lw_eq _ _).mpr (plain_eq eyr emo eda hcum erf (Or.inl ⟨by decide, Or.inl (le2 hc137_16)⟩)))).2) k) ?_
    show OEnds p e below s _ _ _ (T21.setTop (mkF m 181 #[.val (.long q0), .second, .val (.int q1), .val (.int q2), .val (.long yr), .second, .val (.int mo), .val (.int da), .val (.ref nb1), .val (.long rf), .second, .val (.long (epof yr mo da)), .second] []))
    refine own_by (fun _ k => XS.iconst X21.here hx rfl (hb hby at_181) k) ?_
    show OEnds p e below s _ _ _ (T21.setTop (mkF m 182 #[.val (.long q0), .second, .val (.int q1), .val (.int q2), .val (.long yr), .second, .val (.int mo), .val (.int da), .val (.ref nb1), .val (.long rf), .second, .val (.long (epof yr mo da)), .second] [(.int (1 : Int32))]))
    refine own_by (fun _ k => XS.goto X21.here hx rfl (pc0 := 182) (pc' := 186) rfl (hb hby at_182) (by decide) (by decide) k) ?_
    show OEnds p e below s _ _ _ (T21.setTop (mkF m 186 #[.val (.long q0), .second, .val (.int q1), .val (.int q2), .val (.long yr), .second, .val (.int mo), .val (.int da), .val (.ref nb1), .val (.long rf), .second, .val (.long (epof yr mo da)), .second] [(.int (1 : Int32))]))
    exact own_retN X21 hx hlk .boolean (by simp) Bd.returns (hb hby at_186) ⟨rfl, N13⟩ (by decide) (by decide)
set_option maxRecDepth 65536 in
set_option maxHeartbeats 40000000 in
theorem comes_1 {Post : Tables → Env → Array Value → State → Outcome → State → Prop} (hpost : ∀ tb e args s v u, (limb_1_1.after args s (.returned v) u = true ∧ limb_1_2.after args s (.returned v) u = true ∧ True) → FrameEnd s (.returned v) u (Jvm.fieldLocs frame_1_writes args s ++ Jvm.arrayLocs frame_1_arrays args s ++ Jvm.staticLocs frame_1_statics s) 16 128 → Post tb e args s (.returned v) u) :
    ArmFor flags0 classFile x code maxLocals ret World_1 tables_1 room_1 Calls_1 rest_1 Pre_1 Post := by
  intro l hfl _ _ p e ha hc hk s m args below hf hA hF happ hP
  obtain ⟨hcalls, hrest, hpre⟩ := hP
  obtain ⟨-, -, -, hnamed, -, -, -, hat⟩ := (Spec.applies_iff hf).mp happ
  obtain ⟨hg, hn⟩ := and_e (Cond.before_iff.mp (show (Jvm.Cond.and given_1 narrow_1).before args s = true from hpre))
  obtain ⟨hct, hg0⟩ := and_e hg
  obtain ⟨ga0, hg1⟩ := and_e hg0
  obtain ⟨ga1, hg2⟩ := and_e hg1
  have ga2 := hg2
  obtain ⟨w0, w1, w2, rfl⟩ : ∃ w0 w1 w2 : Value, args = #[w0, w1, w2] := by
    have hs : args.size = 3 := by simpa [Cond.value, given_1] using hct
    obtain ⟨L⟩ := args
    match L, hs with
    | [w0, w1, w2], _ => exact ⟨w0, w1, w2, rfl⟩
  have hw := fun d (hd : d ∈ tables_1) => atoms_spec (ws := Jvm.Cond.code x code maxLocals ret :: tables_1) hat d (List.mem_cons_of_mem _ hd)
  obtain ⟨i0, ei0⟩ := isL_v ga0
  obtain rfl : w0 = (.long i0) := Option.some.inj ei0
  obtain ⟨i1, ei1⟩ := is_v ga1
  obtain rfl : w1 = (.int i1) := Option.some.inj ei1
  obtain ⟨i2, ei2⟩ := is_v ga2
  obtain rfl : w2 = (.int i2) := Option.some.inj ei2
  obtain ⟨n, o, h1, h2, h3, _, L, rfl, ⟨rfl, N⟩, hq⟩ := rm_law l s _ hw tables_1 i0 i1 i2 s.heap s.heap.size (Nat.le_refl _) p e ha hc hk s m _ below hf ((Spec.applies_iff_loose hf).mp happ).1 ⟨rfl, State.Warmed39.refl s, rfl⟩ trivial
  refine ⟨n, _, h1, h2, h3, hpost _ _ _ _ _ _ ⟨Cond.after_iff.mpr rfl, Cond.after_iff.mpr (eq_i res_at (Term.int_eval (1)) rfl), trivial⟩ ⟨hq.1, hq.2.1, (hq.2.2.sift fun y hy => Or.inr (N y hy)).mono (by decide) (by decide)⟩⟩
theorem main_1_1 : Claimed_1_1 := comes_1 fun _ _ _ _ _ _ h hF => ⟨h.1, hF⟩
theorem main_1_2 : Claimed_1_2 := comes_1 fun _ _ _ _ _ _ h hF => ⟨h.2.1, hF⟩
end Jvm.Pilot.@@N@@
namespace Jvm.Pilot.@@N@@
open Jvm Jvm.ClassFile Sem Op Lib Jvm.Free Jvm.Stand Jvm.Pilot.@@N@@.Jvm.D
/-! MADE BY PROGRAM (witnessworld.py) out of the Statement's table words and the real class files: 10 classes; the members and pool entries that the words name. The judged class is class 1, her method 4. -/
namespace start1
open Jvm.ClassFile
def u (s : String) : CpInfo := .utf8 (stringToUtf16 s)
/-- a pool by its gaps: so many unusable entries, then the entry; so many at the end -/
def gap : Nat → List CpInfo → List CpInfo
  | 0, r => r
  | n + 1, r => .unusable :: gap n r
def poolList (es : List (Nat × CpInfo)) (last : Nat) : List CpInfo := es.foldr (fun e r => gap e.1 (e.2 :: r)) (gap last [])
def pool (es : List (Nat × CpInfo)) (last : Nat) : Array CpInfo := ⟨poolList es last⟩
def fileOf (pool : Array CpInfo) (this : Nat) (attrs : Array Attribute := #[]) (ms : Array MethodInfo := #[]) (fl : Nat := 33) (sup : Nat := 0) (ifs : Array Nat := #[]) (fds : Array FieldInfo := #[]) : ClassFile where
  minorVersion := 0
  majorVersion := 65
  constantPool := pool
  accessFlags := fl
  thisClass := this
  superClass := sup
  interfaces := ifs
  fields := fds
  methods := ms
  attributes := attrs
def plain (name : String) (sup : Option ClassId) : Class where
  name := name
  kind := .ordinary
  loader := none
  accessFlags := 33
  super := sup
  interfaces := #[]
  cf := none
  fields := #[]
  methods := #[]
  instanceTypes := #[]
  staticTypes := #[]
  resolved := #[]
  callSites := []
  init := .initialized
  statics := none
  mirror := none

def pool0 : Array CpInfo := pool [(5, u "<init>"), (0, u "()V"), (1, .class_ 10), (1, u "java/lang/Object")] 113

def k0m0 : Method := { name := "<init>", desc := "()V", sig := { parameters := [], returnType := none }, accessFlags := 1, code := none }
/-- java/lang/Object -/
def k0 : Class := { plain "java/lang/Object" none with
  accessFlags := 33
  interfaces := #[]
  cf := some (fileOf pool0 8 #[] #[{ accessFlags := 1, nameIndex := 5, descriptorIndex := 6, attributes := #[] }] 33 0 #[] #[])
  fields := #[]
  methods := #[k0m0]
  instanceTypes := #[]
  staticTypes := #[]
  resolved := Array.replicate 124 none
  statics := none }

def pool1 : Array CpInfo := pool [(2, .class_ 4), (1, u "java/lang/Object"), (0, u "<init>"), (0, u "()V"), (0, .long 4), (1, .methodref 10 11), (0, .class_ 12), (0, .nameAndType 13 14), (0, u "com/example/exact_membership/exactmembership/model/EpochDaysOfPinLaw"), (0, u "fdiv"), (0, u "(JJ)J"), (0, .long 100), (1, .long 400), (1, .integer 2147483647), (0, .long 365), (1, .long 1970), (1, .methodref 10 25), (0, .nameAndType 26 27), (0, u "leapsUpTo"), (0, u "(J)J"), (0, .long 1969), (1, .methodref 10 31), (0, .nameAndType 32 33), (0, u "leap"), (0, u "(J)Z"), (0, .methodref 35 36), (0, .class_ 37), (0, .nameAndType 38 39), (0, u "com/example/exact_membership/exactmembership/model/EpochDays"), (0, u "of"), (0, u "(JII)J"), (3, u "law"), (0, u "(JII)Z")] 4

def k1m0 : Method := { name := "<init>", desc := "()V", sig := { parameters := [], returnType := none }, accessFlags := 2, code := none }
def k1c1 : Code := { maxStack := 4, maxLocals := 6, code := method_2_code, exceptionTable := #[], attributes := #[] }
def k1m1 : Method := { name := "fdiv", desc := "(JJ)J", sig := { parameters := [.long, .long], returnType := some .long }, accessFlags := 10, code := some k1c1 }
def k1c2 : Code := { maxStack := 6, maxLocals := 2, code := method_3_code, exceptionTable := #[], attributes := #[] }
def k1m2 : Method := { name := "leapsUpTo", desc := "(J)J", sig := { parameters := [.long], returnType := some .long }, accessFlags := 10, code := some k1c2 }
def k1c3 : Code := { maxStack := 4, maxLocals := 2, code := method_4_code, exceptionTable := #[], attributes := #[] }
def k1m3 : Method := { name := "leap", desc := "(J)Z", sig := { parameters := [.long], returnType := some .boolean }, accessFlags := 10, code := some k1c3 }
def k1c4 : Code := { maxStack := 6, maxLocals := 13, code := code, exceptionTable := #[], attributes := #[] }
def k1m4 : Method := { name := "law", desc := "(JII)Z", sig := { parameters := [.long, .int, .int], returnType := some .boolean }, accessFlags := 9, code := some k1c4 }
/-- com/example/exact_membership/exactmembership/model/EpochDaysOfPinLaw -/
def k1 : Class := { plain "com/example/exact_membership/exactmembership/model/EpochDaysOfPinLaw" (some 0) with
  accessFlags := 49
  interfaces := #[]
  cf := some (fileOf pool1 10 #[] #[{ accessFlags := 2, nameIndex := 5, descriptorIndex := 6, attributes := #[] }, { accessFlags := 10, nameIndex := 13, descriptorIndex := 14, attributes := #[] }, { accessFlags := 10, nameIndex := 26, descriptorIndex := 27, attributes := #[] }, { accessFlags := 10, nameIndex := 32, descriptorIndex := 33, attributes := #[] }, { accessFlags := 9, nameIndex := 43, descriptorIndex := 44, attributes := #[] }] 49 2 #[] #[])
  fields := #[]
  methods := #[k1m0, k1m1, k1m2, k1m3, k1m4]
  instanceTypes := #[]
  staticTypes := #[]
  resolved := Array.replicate 49 none
  statics := none }

def pool2 : Array CpInfo := pool [(2, .class_ 4), (1, u "java/lang/Object"), (0, u "<init>"), (0, u "()V"), (0, .class_ 8), (0, u "com/example/exact_membership/exactmembership/model/EpochDays"), (0, .methodref 10 11), (0, .class_ 12), (0, .nameAndType 13 14), (0, u "java/lang/Math"), (0, u "floorDiv"), (0, u "(JI)J"), (0, .long 400), (1, .long 365), (1, .long 4), (1, .long 100), (1, .long 146097), (1, .long 719468), (7, u "of"), (0, u "(JII)J"), (17, u "MONTHS"), (0, u "I"), (2, u "YEARS_PER_ERA"), (1, u "DAYS_PER_ERA"), (0, u "DAYS_TO_EPOCH")] 9

def k2m0 : Method := { name := "<init>", desc := "()V", sig := { parameters := [], returnType := none }, accessFlags := 2, code := none }
def k2c1 : Code := { maxStack := 6, maxLocals := 14, code := prog_18_method_2_code, exceptionTable := #[], attributes := #[] }
def k2m1 : Method := { name := "of", desc := "(JII)J", sig := { parameters := [.long, .int, .int], returnType := some .long }, accessFlags := 9, code := some k2c1 }
/-- com/example/exact_membership/exactmembership/model/EpochDays -/
def k2 : Class := { plain "com/example/exact_membership/exactmembership/model/EpochDays" (some 0) with
  accessFlags := 49
  interfaces := #[]
  cf := some (fileOf pool2 7 #[] #[{ accessFlags := 2, nameIndex := 5, descriptorIndex := 6, attributes := #[] }, { accessFlags := 9, nameIndex := 33, descriptorIndex := 34, attributes := #[] }] 49 2 #[] #[{ accessFlags := 26, nameIndex := 52, descriptorIndex := 53, attributes := #[] }, { accessFlags := 26, nameIndex := 56, descriptorIndex := 53, attributes := #[] }, { accessFlags := 26, nameIndex := 58, descriptorIndex := 53, attributes := #[] }, { accessFlags := 26, nameIndex := 59, descriptorIndex := 53, attributes := #[] }])
  fields := #[{ name := "MONTHS", type := .int, accessFlags := 26, slot := 0, constantValue := 0 }, { name := "YEARS_PER_ERA", type := .int, accessFlags := 26, slot := 1, constantValue := 0 }, { name := "DAYS_PER_ERA", type := .int, accessFlags := 26, slot := 2, constantValue := 0 }, { name := "DAYS_TO_EPOCH", type := .int, accessFlags := 26, slot := 3, constantValue := 0 }]
  methods := #[k2m0, k2m1]
  instanceTypes := #[]
  staticTypes := #[.int, .int, .int, .int]
  resolved := Array.replicate 69 none
  statics := none }

def pool3 : Array CpInfo := pool [(1, .class_ 2), (0, u "java/lang/Math"), (1, .class_ 6), (1, u "java/lang/Object"), (0, u "<init>"), (0, u "()V"), (89, .class_ 100), (1, u "java/lang/Math$RandomNumberGeneratorHolder"), (20, u "(JJ)J"), (21, .methodref 1 144), (0, .nameAndType 145 121), (0, u "floorDiv"), (26, u "negativeZeroFloatBits"), (0, u "J"), (2, u "negativeZeroDoubleBits"), (68, u "$assertionsDisabled"), (0, u "Z"), (91, u "twoToTheDoubleScaleDown"), (0, u "D"), (4, u "twoToTheDoubleScaleUp"), (9, u "E"), (3, u "PI"), (2, u "TAU"), (2, u "DEGREES_TO_RADIANS"), (0, u "RADIANS_TO_DEGREES"), (29, u "(JI)J")] 64

def k3m0 : Method := { name := "<init>", desc := "()V", sig := { parameters := [], returnType := none }, accessFlags := 2, code := none }
def k3c1 : Code := { maxStack := 4, maxLocals := 3, code := jdk_29_method_48_code, exceptionTable := #[], attributes := #[] }
def k3m1 : Method := { name := "floorDiv", desc := "(JI)J", sig := { parameters := [.long, .int], returnType := some .long }, accessFlags := 9, code := some k3c1 }
def k3c2 : Code := { maxStack := 4, maxLocals := 6, code := jdk_29_method_49_code, exceptionTable := #[], attributes := #[] }
def k3m2 : Method := { name := "floorDiv", desc := "(JJ)J", sig := { parameters := [.long, .long], returnType := some .long }, accessFlags := 9, code := some k3c2 }
/-- java/lang/Math -/
def k3 : Class := { plain "java/lang/Math" (some 0) with
  accessFlags := 49
  interfaces := #[]
  cf := some (fileOf pool3 1 #[.nestMembers #[98]] #[{ accessFlags := 2, nameIndex := 7, descriptorIndex := 8, attributes := #[] }, { accessFlags := 9, nameIndex := 145, descriptorIndex := 395, attributes := #[] }, { accessFlags := 9, nameIndex := 145, descriptorIndex := 121, attributes := #[] }] 49 4 #[] #[{ accessFlags := 25, nameIndex := 354, descriptorIndex := 339, attributes := #[] }, { accessFlags := 25, nameIndex := 358, descriptorIndex := 339, attributes := #[] }, { accessFlags := 25, nameIndex := 361, descriptorIndex := 339, attributes := #[] }, { accessFlags := 26, nameIndex := 364, descriptorIndex := 339, attributes := #[] }, { accessFlags := 26, nameIndex := 365, descriptorIndex := 339, attributes := #[] }, { accessFlags := 26, nameIndex := 172, descriptorIndex := 173, attributes := #[] }, { accessFlags := 26, nameIndex := 176, descriptorIndex := 173, attributes := #[] }, { accessFlags := 8, nameIndex := 344, descriptorIndex := 339, attributes := #[] }, { accessFlags := 8, nameIndex := 338, descriptorIndex := 339, attributes := #[] }, { accessFlags := 4120, nameIndex := 245, descriptorIndex := 246, attributes := #[] }])
  fields := #[{ name := "E", type := .double, accessFlags := 25, slot := 0, constantValue := 0 }, { name := "PI", type := .double, accessFlags := 25, slot := 1, constantValue := 0 }, { name := "TAU", type := .double, accessFlags := 25, slot := 2, constantValue := 0 }, { name := "DEGREES_TO_RADIANS", type := .double, accessFlags := 26, slot := 3, constantValue := 0 }, { name := "RADIANS_TO_DEGREES", type := .double, accessFlags := 26, slot := 4, constantValue := 0 }, { name := "negativeZeroFloatBits", type := .long, accessFlags := 26, slot := 5, constantValue := 0 }, { name := "negativeZeroDoubleBits", type := .long, accessFlags := 26, slot := 6, constantValue := 0 }, { name := "twoToTheDoubleScaleUp", type := .double, accessFlags := 8, slot := 7, constantValue := 0 }, { name := "twoToTheDoubleScaleDown", type := .double, accessFlags := 8, slot := 8, constantValue := 0 }, { name := "$assertionsDisabled", type := .boolean, accessFlags := 4120, slot := 9, constantValue := 0 }]
  methods := #[k3m0, k3m1, k3m2]
  instanceTypes := #[]
  staticTypes := #[.double, .double, .double, .double, .double, .long, .long, .double, .double, .boolean]
  resolved := Array.replicate 460 none
  statics := none }

def pool4 : Array CpInfo := pool [(1, u "java/lang/Cloneable"), (0, .class_ 1), (0, u "java/lang/Object"), (0, .class_ 3)] 3

/-- java/lang/Cloneable -/
def k4 : Class := { plain "java/lang/Cloneable" (some 0) with
  accessFlags := 1537
  interfaces := #[]
  cf := some (fileOf pool4 2 #[] #[] 1537 4 #[] #[])
  fields := #[]
  methods := #[]
  instanceTypes := #[]
  staticTypes := #[]
  resolved := Array.replicate 8 none
  statics := none }

def pool5 : Array CpInfo := pool [(1, u "java/io/Serializable"), (0, .class_ 1), (0, u "java/lang/Object"), (0, .class_ 3)] 3

/-- java/io/Serializable -/
def k5 : Class := { plain "java/io/Serializable" (some 0) with
  accessFlags := 1537
  interfaces := #[]
  cf := some (fileOf pool5 2 #[] #[] 1537 4 #[] #[])
  fields := #[]
  methods := #[]
  instanceTypes := #[]
  staticTypes := #[]
  resolved := Array.replicate 8 none
  statics := none }

/-- the primitive byte -/
def k6 : Class := { plain "byte" none with kind := .primitive 'B', accessFlags := 0x411 }
/-- [B -/
def k7 : Class := { plain "[B" (some 0) with kind := .array 6 .byte, interfaces := #[4, 5], accessFlags := 1041 }

/-- the primitive int -/
def k8 : Class := { plain "int" none with kind := .primitive 'I', accessFlags := 0x411 }
/-- [I -/
def k9 : Class := { plain "[I" (some 0) with kind := .array 8 .int, interfaces := #[4, 5], accessFlags := 1041 }

def heap : Heap := #[]
def classes : Array Class := #[k0, k1, k2, k3, k4, k5, k6, k7, k8, k9]
def interned : List (Array UInt16 × Addr) := []
def slotsUsed : Nat := 0
def theMethod : MethodId := ⟨1, 4⟩
def args0 : Array Value := #[.long 5, .int 3, .int 4]
def aboutOver (below : List Frame) : State where
  vm := { classes := classes, interned := interned.toArray }
  heap := heap
  slotsUsed := slotsUsed
  threads := #[{ frames := .invoking theMethod args0 :: below }]
def below0 : List Frame := [.native { method := ⟨0, 0⟩, args := #[] }]
def about1 : State := aboutOver below0
def p0 : Program := .bare "" "" ""
def e0 : Env := launch0.env 0 0 0
theorem w_frames : about1.frames = Frame.invoking theMethod args0 :: below0 := rfl
set_option maxRecDepth 65536 in
theorem w_args : argsFit about1.vm theMethod args0 = true := by decide +kernel
set_option maxRecDepth 65536 in
theorem w_heap : heapFits about1 = true := by decide +kernel
set_option maxRecDepth 65536 in
theorem w_runnable : about1.curStatus? = some .runnable := by decide +kernel
set_option maxRecDepth 65536 in
theorem w_alone : about1.alone = true := by decide +kernel
set_option maxRecDepth 65536 in
theorem w_named : about1.methodNamed? x = some theMethod := by decide +kernel
set_option maxRecDepth 65536 in
theorem w_hears : about1.hears theMethod below0 = true := by decide +kernel
set_option maxRecDepth 65536 in
theorem w_ripe : about1.ripe theMethod args0 below0 = true := by decide +kernel
theorem w_running : about1.status = .running := rfl
set_option maxRecDepth 65536 in
theorem w_room : about1.hasRoom e0.platform room_1 = true :=
  launch0.hasRoom_least _ room_1 (by decide +kernel) (by decide +kernel) (by decide +kernel) (by decide +kernel) (by decide +kernel) (by decide +kernel)
theorem allAtoms_all (ts : List Jvm.Cond) (a : Array Jvm.Value) (st : Jvm.State) : (allAtoms ts).before a st = ts.all (fun c => c.before a st) := by
  induction ts with
  | nil => rfl
  | cons c t ih =>
    show (Jvm.Cond.and c (allAtoms t)).before a st = _
    rw [Jvm.Cond.before_and, ih, List.all_cons]
def words1 : List Jvm.Cond := Jvm.Cond.code x code maxLocals ret :: tables_1
/-- a 'code' word, met by the world's own term for the bytes: nothing is compared byte by byte -/
theorem code_word {y : MethodName} {bytes : ByteArray} {mx : Nat} {rt : Option FieldType} {a : Array Value} {s : State} {m : MethodId} {meth : Method} {c : Code} (h1 : s.methodNamed? y = some m) (h2 : s.vm.method? m = some meth) (h3 : meth.code = some c) (h4 : c.code = bytes)
    (h5 : (c.maxLocals == mx && c.exceptionTable.isEmpty && decide (c.maxStack ≤ mostOperands) && decide (meth.sig.returnType = rt) && !meth.locks && decide (parseMethodDescriptor y.desc = some meth.sig)) = true) : (Jvm.Cond.code y bytes mx rt).before a s = true := by
  simp only [Bool.and_eq_true, beq_iff_eq, Bool.not_eq_true', decide_eq_true_eq] at h5
  obtain ⟨⟨⟨⟨⟨g1, g2⟩, g3⟩, g4⟩, g5⟩, g6⟩ := h5
  simp [Cond.before, Cond.holds, Cond.value, h1, h2, h3, h4, g1, g2, g3, g4, g5, g6]
def isCode : Jvm.Cond → Bool
  | .code _ _ _ _ => true
  | _ => false
theorem all_split {L : List Jvm.Cond} {P : Jvm.Cond → Bool} (h1 : L.all (fun c => isCode c || P c) = true) (h2 : ∀ c ∈ L.filter isCode, P c = true) : L.all P = true := by
  refine List.all_eq_true.mpr fun c hc => ?_
  have h := List.all_eq_true.mp h1 c hc
  rcases Bool.eq_false_or_eq_true (isCode c) with hi | hi
  · exact h2 c (List.mem_filter.mpr ⟨hc, hi⟩)
  · simpa [hi] using h
set_option maxRecDepth 65536 in
theorem w_c0 : (Jvm.Cond.code x code maxLocals ret).before args0 about1 = true := code_word (m := ⟨1, 4⟩) (meth := k1m4) (c := k1c4) (by decide +kernel) rfl rfl rfl (by decide +kernel)
set_option maxRecDepth 65536 in
theorem w_c1 : (Jvm.Cond.code ({ cls := "com/example/exact_membership/exactmembership/model/EpochDaysOfPinLaw", name := "leapsUpTo", desc := "(J)J" } : Jvm.MethodName) method_3_code (2 : Nat) (Option.some Jvm.ClassFile.FieldType.long)).before args0 about1 = true := code_word (m := ⟨1, 2⟩) (meth := k1m2) (c := k1c2) (by decide +kernel) rfl rfl rfl (by decide +kernel)
set_option maxRecDepth 65536 in
theorem w_c2 : (Jvm.Cond.code ({ cls := "com/example/exact_membership/exactmembership/model/EpochDaysOfPinLaw", name := "fdiv", desc := "(JJ)J" } : Jvm.MethodName) method_2_code (6 : Nat) (Option.some Jvm.ClassFile.FieldType.long)).before args0 about1 = true := code_word (m := ⟨1, 1⟩) (meth := k1m1) (c := k1c1) (by decide +kernel) rfl rfl rfl (by decide +kernel)
set_option maxRecDepth 65536 in
theorem w_c3 : (Jvm.Cond.code ({ cls := "com/example/exact_membership/exactmembership/model/EpochDaysOfPinLaw", name := "leap", desc := "(J)Z" } : Jvm.MethodName) method_4_code (2 : Nat) (Option.some Jvm.ClassFile.FieldType.boolean)).before args0 about1 = true := code_word (m := ⟨1, 3⟩) (meth := k1m3) (c := k1c3) (by decide +kernel) rfl rfl rfl (by decide +kernel)
set_option maxRecDepth 65536 in
theorem w_c4 : (Jvm.Cond.code ({ cls := "com/example/exact_membership/exactmembership/model/EpochDays", name := "of", desc := "(JII)J" } : Jvm.MethodName) prog_18_method_2_code (14 : Nat) (Option.some Jvm.ClassFile.FieldType.long)).before args0 about1 = true := code_word (m := ⟨2, 1⟩) (meth := k2m1) (c := k2c1) (by decide +kernel) rfl rfl rfl (by decide +kernel)
set_option maxRecDepth 65536 in
theorem w_c5 : (Jvm.Cond.code ({ cls := "java/lang/Math", name := "floorDiv", desc := "(JI)J" } : Jvm.MethodName) jdk_29_method_48_code (3 : Nat) (Option.some Jvm.ClassFile.FieldType.long)).before args0 about1 = true := code_word (m := ⟨3, 1⟩) (meth := k3m1) (c := k3c1) (by decide +kernel) rfl rfl rfl (by decide +kernel)
set_option maxRecDepth 65536 in
theorem w_c6 : (Jvm.Cond.code ({ cls := "java/lang/Math", name := "floorDiv", desc := "(JJ)J" } : Jvm.MethodName) jdk_29_method_49_code (6 : Nat) (Option.some Jvm.ClassFile.FieldType.long)).before args0 about1 = true := code_word (m := ⟨3, 2⟩) (meth := k3m2) (c := k3c2) (by decide +kernel) rfl rfl rfl (by decide +kernel)
def codes1 : List Jvm.Cond := [Jvm.Cond.code x code maxLocals ret, Jvm.Cond.code ({ cls := "com/example/exact_membership/exactmembership/model/EpochDaysOfPinLaw", name := "leapsUpTo", desc := "(J)J" } : Jvm.MethodName) method_3_code (2 : Nat) (Option.some Jvm.ClassFile.FieldType.long), Jvm.Cond.code ({ cls := "com/example/exact_membership/exactmembership/model/EpochDaysOfPinLaw", name := "fdiv", desc := "(JJ)J" } : Jvm.MethodName) method_2_code (6 : Nat) (Option.some Jvm.ClassFile.FieldType.long), Jvm.Cond.code ({ cls := "com/example/exact_membership/exactmembership/model/EpochDaysOfPinLaw", name := "leap", desc := "(J)Z" } : Jvm.MethodName) method_4_code (2 : Nat) (Option.some Jvm.ClassFile.FieldType.boolean), Jvm.Cond.code ({ cls := "com/example/exact_membership/exactmembership/model/EpochDays", name := "of", desc := "(JII)J" } : Jvm.MethodName) prog_18_method_2_code (14 : Nat) (Option.some Jvm.ClassFile.FieldType.long), Jvm.Cond.code ({ cls := "java/lang/Math", name := "floorDiv", desc := "(JI)J" } : Jvm.MethodName) jdk_29_method_48_code (3 : Nat) (Option.some Jvm.ClassFile.FieldType.long), Jvm.Cond.code ({ cls := "java/lang/Math", name := "floorDiv", desc := "(JJ)J" } : Jvm.MethodName) jdk_29_method_49_code (6 : Nat) (Option.some Jvm.ClassFile.FieldType.long)]
set_option maxRecDepth 65536 in
theorem codes_eq : words1.filter isCode = codes1 := rfl
theorem w_codes : ∀ c ∈ words1.filter isCode, c.before args0 about1 = true := by
  rw [codes_eq]
  intro c hc
  simp only [codes1, List.mem_cons, List.not_mem_nil, or_false] at hc
  rcases hc with rfl | rfl | rfl | rfl | rfl | rfl | rfl
  · exact w_c0
  · exact w_c1
  · exact w_c2
  · exact w_c3
  · exact w_c4
  · exact w_c5
  · exact w_c6
set_option maxRecDepth 65536 in
theorem w_t1 : (words1.take 24).all (fun c => isCode c || c.before args0 about1) = true := by decide +kernel
set_option maxRecDepth 65536 in
theorem w_t2 : (words1.drop 24).all (fun c => isCode c || c.before args0 about1) = true := by decide +kernel
theorem w_tables : (allAtoms (Jvm.Cond.code x code maxLocals ret :: tables_1)).before args0 about1 = true := by
  rw [allAtoms_all]
  show words1.all (fun c => c.before args0 about1) = true
  refine all_split ?_ w_codes
  rw [← List.take_append_drop 24 words1, List.all_append, w_t1, w_t2]
  rfl
set_option maxRecDepth 65536 in
theorem w_case : (Jvm.Cond.and given_1 narrow_1).before args0 about1 = true := by decide +kernel
theorem w_applies : (headSpec (Jvm.Cond.code x code maxLocals ret :: tables_1) room_1).applies x e0.platform about1 = true :=
  (Spec.applies_iff w_frames).mpr ⟨w_running, w_runnable, w_alone, w_named, w_hears, w_ripe, w_room, w_tables⟩
theorem atStart : AtStart classFile x code maxLocals ret World_1 tables_1 room_1 Calls_1 rest_1 Pre_1 launch0 p0 e0 about1 theMethod args0 below0 :=
  ⟨lists_1, trivial, launch0.admits_env _ _ _, launch0.least_env, fairChoices_fair.cas, fairChoices_fair.clock, w_frames, w_args, w_heap, w_applies, trivial, trivial, w_case⟩
end start1
theorem witness_1 : WitnessClaimed_1 := ⟨start1.p0, start1.e0, start1.about1, start1.theMethod, start1.args0, start1.below0, start1.atStart⟩
end Jvm.Pilot.@@N@@
