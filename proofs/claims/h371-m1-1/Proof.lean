import JvmDerived
import JvmDerived.Pilot.@@N@@Statement
import JvmDerived.Pilot.@@N@@Code
set_option linter.unusedVariables false
set_option linter.unusedSimpArgs false
namespace Jvm.Pilot.@@N@@
open Jvm Jvm.ClassFile Sem Op Lib Jvm.Free Jvm.Stand Jvm.LawKit Jvm.RoadKit Bundle Jvm.Pilot.@@N@@.Jvm.D
section Own
variable {p : Program} {l : Launch} {e : Env} {R : Room} {s : State} {m : MethodId} {args : Array Value} {below : List Frame} {meth : Method} {c : Code} {T : State} {locs : List Loc} {cells slots : Nat} {Z : State} {a0 : Array Value} {h h' : Heap}
/-- from S the walk comes to the method's end, where Q holds of what is returned, the heap and the written places -/
def OEnds (p : Program) (e : Env) (below : List Frame) (s : State) (Q : Option Value → Heap → List Loc → Prop) (K N : Nat) (S : State) : Prop :=
  ∃ s₂ o, Steps p.tables e below S s₂ ∧ s₂.status = .running ∧ Ended s₂ below o ∧ ∃ v L, o = .returned v ∧ Q v s₂.heap L ∧ FrameEnd s o s₂ L K N
variable {Q Q' : Option Value → Heap → List Loc → Prop} {K N : Nat} {S S' : State}
theorem own_by (st : ∀ t, Steps p.tables e below S' t → Steps p.tables e below S t) (k : OEnds p e below s Q K N S') : OEnds p e below s Q K N S := by
  obtain ⟨a, o, h1, h2⟩ := k
  exact ⟨a, o, st _ h1, h2⟩
theorem own_tr (st : Steps p.tables e below S S') (k : OEnds p e below s Q K N S') : OEnds p e below s Q K N S := by
  obtain ⟨a, o, h1, h2⟩ := k
  exact ⟨a, o, st.trans h1, h2⟩
theorem own_mono (f : ∀ v h L, Q' v h L → Q v h L) (k : OEnds p e below s Q' K N S) : OEnds p e below s Q K N S := by
  obtain ⟨a, o, h1, h2, h3, v, L, h4, h5, h6⟩ := k
  exact ⟨a, o, h1, h2, h3, v, L, h4, f _ _ _ h5, h6⟩
theorem own_fin (X : Stand p l e R s m args below meth c T locs cells slots) (hlk : meth.locks = false) {v : Option Value} (hv : meth.sig.returnType = none → v = none) (hQ : Q v T.heap locs) (hK : cells ≤ K) (hN : slots ≤ N)
    (hst : ∀ fs, (∀ (f : JFrame) (acts : List Action), f.method = m → f.locked = none → f.entered = [] → (doReturn e (T.setTop f) acts v).1 = T.setFrames fs) → Steps p.tables e below S (T.setFrames fs)) : OEnds p e below s Q K N S := by
  obtain ⟨fs, hr, hrun, hended, hW, hsame⟩ := X.leave hv hlk
  exact ⟨_, _, hst fs hr, hrun, hended, _, _, rfl, hQ, ⟨_, rfl⟩, hW, hsame.mono hK hN⟩
theorem own_retI (X : Stand p l e R s m args below meth c T locs cells slots) (hx : p.tables.exec = Jvm.exec) (hlk : meth.locks = false) {pc : Nat} {Ls : Array Slot} {z : Int32} {rest : List Value} (hret : meth.sig.returnType = some .int) (hd : decode c.code pc = .ok (.ireturn, 1))
    (hQ : Q (some (.int z)) T.heap locs) (hK : cells ≤ K) (hN : slots ≤ N) : OEnds p e below s Q K N (T.setTop (mkF m pc Ls (.int z :: rest))) :=
  own_fin X hlk (fun q => by rw [hret] at q; cases q) hQ hK hN fun _ hr => retOut X hx hret rfl (Or.inl ⟨rfl, Or.inl rfl, _, rfl⟩) hd hr
theorem own_retN (X : Stand p l e R s m args below meth c T locs cells slots) (hx : p.tables.exec = Jvm.exec) (hlk : meth.locks = false) (t : FieldType) (ht : t = .boolean ∨ t = .byte ∨ t = .char ∨ t = .short) {pc : Nat} {Ls : Array Slot} {z : Int32} {rest : List Value} (hret : meth.sig.returnType = some t) (hd : decode c.code pc = .ok (.ireturn, 1))
    (hQ : Q (some (.int (nar t z))) T.heap locs) (hK : cells ≤ K) (hN : slots ≤ N) : OEnds p e below s Q K N (T.setTop (mkF m pc Ls (.int z :: rest))) :=
  own_fin X hlk (fun q => by rw [hret] at q; cases q) hQ hK hN fun _ hr => retN X hx hret ht hd hr
theorem own_retJ (X : Stand p l e R s m args below meth c T locs cells slots) (hx : p.tables.exec = Jvm.exec) (hlk : meth.locks = false) {pc : Nat} {Ls : Array Slot} {z : Int64} {rest : List Value} (hret : meth.sig.returnType = some .long) (hd : decode c.code pc = .ok (.lreturn, 1))
    (hQ : Q (some (.long z)) T.heap locs) (hK : cells ≤ K) (hN : slots ≤ N) : OEnds p e below s Q K N (T.setTop (mkF m pc Ls (.long z :: rest))) :=
  own_fin X hlk (fun q => by rw [hret] at q; cases q) hQ hK hN fun _ hr => retOut X hx hret rfl (Or.inr (Or.inl ⟨rfl, rfl, _, rfl⟩)) hd hr
theorem own_retA (X : Stand p l e R s m args below meth c T locs cells slots) (hx : p.tables.exec = Jvm.exec) (hlk : meth.locks = false) {t : FieldType} (ht : t.isReference = true) {pc : Nat} {Ls : Array Slot} {a : Addr} {rest : List Value} (hret : meth.sig.returnType = some t) (hn : narrow t (.ref a) = .ref a) (hd : decode c.code pc = .ok (.areturn, 1))
    (hQ : Q (some (.ref a)) T.heap locs) (hK : cells ≤ K) (hN : slots ≤ N) : OEnds p e below s Q K N (T.setTop (mkF m pc Ls (.ref a :: rest))) :=
  own_fin X hlk (fun q => by rw [hret] at q; cases q) hQ hK hN fun _ hr => retOut X hx hret hn (Or.inr (Or.inr (Or.inr (Or.inr ⟨rfl, ht, rfl⟩)))) hd hr
theorem own_retV (X : Stand p l e R s m args below meth c T locs cells slots) (hx : p.tables.exec = Jvm.exec) (hlk : meth.locks = false) {pc : Nat} {Ls : Array Slot} (hret : meth.sig.returnType = none) (hd : decode c.code pc = .ok (.return_, 1))
    (hQ : Q none T.heap locs) (hK : cells ≤ K) (hN : slots ≤ N) : OEnds p e below s Q K N (T.setTop (mkF m pc Ls [])) :=
  own_fin X hlk (fun _ => rfl) hQ hK hN fun _ hr => X.returnOut hx hret hd hr
/-- what a plain method leaves: its value, nothing written, the heap as it was -/
def QP (r : Value) (h0 : Heap) (v : Option Value) (h : Heap) (L : List Loc) : Prop := v = some r ∧ L = [] ∧ h = h0
theorem own_eq {r r' : Value} {h0 : Heap} (q : r = r') (k : OEnds p e below s (QP r' h0) K N S) : OEnds p e below s (QP r h0) K N S := by subst q; exact k
theorem own_lrem {g : JFrame} {target : State} (X : Stand p l e R s m args below meth c T locs cells slots) (hx : p.tables.exec = Jvm.exec) (hg : g.method = m) {x y : Int64} {rest : List Value} (hd : decode c.code g.pc = .ok (.lrem, 1)) (hs : g.stack = .long y :: .long x :: rest) (hy : y ≠ 0)
    (hr : Steps p.tables e below (T.setTop { g with pc := g.pc + 1, stack := .long (x % y) :: rest }) target) : Steps p.tables e below (T.setTop g) target := by
  have q : x - x / y * y = x % y := lrem_mod x y
  exact XS.lrem X.here hx hg hd hs hy (by rw [q]; exact hr)
/-- a call of a plain static method by its contract -/
theorem own_callP (X : Stand p l e R s m args below meth c T locs cells slots) (hx : p.tables.exec = Jvm.exec) (hZ : Z.Warmed39 s.vm) {own : String} {index : Nat} {y : MethodName} {bytes : ByteArray} {maxL : Nat} {ret : Option FieldType} {fr lo : Nat} {r : Value} {argsL rest : List Value} {g : JFrame}
    (hown : s.vm.findClass own = some m.cls) (w1 : (Cond.methodLink own index y).before a0 Z = true) (w2 : (Cond.static y).before a0 Z = true) (w3 : (Cond.initialized y.cls).before a0 Z = true) (w4 : (Cond.code y bytes maxL ret).before a0 Z = true)
    (hy : y.cls ≠ "java/lang/invoke/MethodHandle" ∧ y.cls ≠ "java/lang/invoke/VarHandle")
    (hM : MetFree l y (head1 [Cond.code y bytes maxL ret] ({ frames := fr, cells := 0, slots := 0, locals := lo } : Room)) (fun a U => a = argsL.toArray ∧ Z.Warmed39 U.vm ∧ U.heap = h) (fun _ _ _ _ _ => True) (fun _ U o U' => ∃ v L, o = .returned v ∧ QP r h v U'.heap L ∧ FrameEnd U o U' L 0 0))
    (eT : T.heap = h) (hg : g.method = m) (hsize : g.locals.size = c.maxLocals) (hlen : ∀ sig, parseMethodDescriptor y.desc = some sig → argsL.length = sig.parameters.length) (hstack : g.stack = argsL.reverse ++ rest) {W : Nat} (hW : 2 * g.monitorRoom + (rest.map fun v => v.category).sum ≤ W)
    (hd : decode c.code g.pc = .ok (.invokestatic index, 3)) (hf : fr + 1 ≤ R.frames) (hl : W + (maxL + 11) + lo ≤ R.locals) (hc : cells ≤ R.cells) (hs : slots ≤ R.slots) :
    ∃ T', Stand p l e R s m args below meth c T' locs cells slots ∧ T'.heap = h ∧ ∀ target, Steps p.tables e below (T'.setTop { g with pc := g.pc + 3, stack := r :: rest }) target → Steps p.tables e below (T.setTop g) target := by
  obtain ⟨_, _, ⟨T1, L1, k1, n1⟩, -, X1, ⟨Lc, hQ, l1, y1, z1⟩, st⟩ := Jvm.LawKit.callS X hx (y := y) hown (mvT hZ w1) (mvT hZ w2) (mvT hZ w3) (mvT hZ w4) hy (backOf (rm := ({ frames := fr, cells := 0, slots := 0, locals := lo } : Room)) (W := W) hM hZ w4 w3 hf hl) (g := g) hg hsize (argsL := argsL) (rest := rest) hlen hstack hW hd (fun _ _ => ⟨rfl, eT, hc, hs⟩)
  dsimp only [Pt.U, Pt.locs, Pt.cells, Pt.slots] at X1 l1 y1 z1 st hQ
  subst l1 y1 z1
  obtain ⟨rfl, rfl, e1⟩ := hQ
  rw [List.append_nil] at X1
  exact ⟨T1, X1, e1, st⟩
end Own
section Own2
variable {p : Program} {l : Launch} {e : Env} {R : Room} {s : State} {m : MethodId} {args : Array Value} {below : List Frame} {meth : Method} {c : Code} {T : State} {locs : List Loc} {cells slots : Nat} {Z : State} {a0 : Array Value} {h h' : Heap}
  {a b : Addr} {C : String} {sch : List (String × String)} {vs : List Value} {ws : List Addr} {sl : Nat} {v : Value}
/-- the object at a is exactly a C, and its fields (in the order of sch) hold vs -/
def Obj (Z : State) (h : Heap) (a : Addr) (C : String) (sch : List (String × String)) (vs : List Value) : Prop :=
  Exa Z h a C ∧ ∀ (i : Nat) (n d : String) (v : Value), sch[i]? = some (n, d) → vs[i]? = some v → Fld Z h a C n d v
def SchOk (Z : State) (a0 : Array Value) (C : String) (sch : List (String × String)) : Prop :=
  (∀ q ∈ sch, Laid Z a0 C C q.1 q.2) ∧ (∀ q ∈ sch, (parseFieldDescriptor q.2).isSome = true) ∧ (sch.map (·.1)).Nodup
theorem Obj.exa (O : Obj Z h a C sch vs) : Exa Z h a C := O.1
theorem Obj.lt (O : Obj Z h a C sch vs) : a < h.size := O.1.lt
theorem Obj.fld (O : Obj Z h a C sch vs) (i : Nat) {n d : String} {v : Value} (h1 : sch[i]? = some (n, d)) (h2 : vs[i]? = some v) : Fld Z h a C n d v := O.2 i n d v h1 h2
theorem Obj.ext (O : Obj Z h a C sch vs) (E : Ext h h') : Obj Z h' a C sch vs := ⟨O.1.ext E, fun i n d v h1 h2 => (O.2 i n d v h1 h2).ext E⟩
theorem Obj.other (O : Obj Z h b C sch vs) (W : Wr h h' a sl v) (q : b ≠ a) : Obj Z h' b C sch vs := ⟨O.1.wr W, fun i n d v h1 h2 => (O.2 i n d v h1 h2).other W (Or.inl q)⟩
theorem Obj.keep (O : Obj Z h a C sch vs) (K : Keep h h' ws) (q : a ∉ ws) : Obj Z h' a C sch vs := ⟨O.1.keep K, fun i n d v h1 h2 => (O.2 i n d v h1 h2).keep K q⟩
theorem sch_ne (S : SchOk Z a0 C sch) {i j : Nat} {n d n' d' : String} (hi : sch[i]? = some (n, d)) (hj : sch[j]? = some (n', d')) (ne : i ≠ j) : n ≠ n' := by
  intro q
  have h3 := S.2.2
  rw [List.nodup_iff_pairwise_ne, List.pairwise_iff_getElem] at h3
  have e1 : (sch.map (·.1))[i]? = some n := by rw [List.getElem?_map, hi]; rfl
  have e2 : (sch.map (·.1))[j]? = some n' := by rw [List.getElem?_map, hj]; rfl
  obtain ⟨l1, f1⟩ := List.getElem?_eq_some_iff.mp e1
  obtain ⟨l2, f2⟩ := List.getElem?_eq_some_iff.mp e2
  rcases Nat.lt_or_gt_of_ne ne with k | k
  · exact h3 i j l1 l2 k (by rw [f1, f2, q])
  · exact h3 j i l2 l1 k (by rw [f1, f2, q])
theorem sch_ty (S : SchOk Z a0 C sch) {i : Nat} {n d : String} (hi : sch[i]? = some (n, d)) : ∃ t, parseFieldDescriptor d = some t :=
  Option.isSome_iff_exists.mp (S.2.1 _ (List.mem_of_getElem? hi))
theorem Obj.set (O : Obj Z h a C sch vs) (S : SchOk Z a0 C sch) {n d : String} (W : Wr h h' a (Jvm.RoadKit.slotOf Z C n d) v) (i : Nat) (hi : sch[i]? = some (n, d)) (hl : i < vs.length) : Obj Z h' a C sch (vs.set i v) := by
  refine ⟨O.1.wr W, fun j n' d' w h1 h2 => ?_⟩
  by_cases q : j = i
  · subst q
    cases hi.symm.trans h1
    rw [List.getElem?_set_self hl] at h2
    cases h2
    exact Fld.same W (O.2 j n d _ hi (List.getElem?_eq_getElem hl))
  · rw [List.getElem?_set_ne (Ne.symm q)] at h2
    obtain ⟨t, ht⟩ := sch_ty S hi
    obtain ⟨t', ht'⟩ := sch_ty S h1
    have L1 : Laid Z a0 C C n' d' := S.1 (n', d') (List.mem_of_getElem? h1)
    have L2 : Laid Z a0 C C n d := S.1 (n, d) (List.mem_of_getElem? hi)
    exact Fld.other W (O.2 j n' d' w h1 h2) (Or.inr (slot_ne L1 L2 (sch_ne S h1 hi q) ht' ht))
theorem Obj.new (S : SchOk Z a0 C sch) (A : Exa Z h a C) (D : ∀ {O nm d : String} {ty : FieldType}, Laid Z a0 C O nm d → parseFieldDescriptor d = some ty → Fld Z h a O nm d (defaultValue ty)) (tys : List FieldType) (ht : sch.map (fun q => parseFieldDescriptor q.2) = tys.map some) : Obj Z h a C sch (tys.map defaultValue) := by
  refine ⟨A, fun i n d v h1 h2 => ?_⟩
  rw [List.getElem?_map] at h2
  have e1 : (sch.map (fun q => parseFieldDescriptor q.2))[i]? = some (parseFieldDescriptor d) := by rw [List.getElem?_map, h1]; rfl
  rw [ht, List.getElem?_map] at e1
  cases hq : tys[i]? with
  | none => rw [hq] at e1; cases e1
  | some t =>
    rw [hq] at e1 h2
    cases h2
    exact D (S.1 _ (List.mem_of_getElem? h1)) (Option.some.inj e1).symm
/-- an array of n places whose i-th holds f i -/
def FA (Z : State) (h : Heap) (a : Addr) (ty : FieldType) (n : Nat) (f : Nat → Value) : Prop :=
  ∃ c : Cell, Arr Z h a c ty ∧ c.slots.size = n ∧ n < 2 ^ 31 ∧ ∀ i, i < n → c.slots[i]? = some (f i)
variable {ty ty' : FieldType} {n n' : Nat} {f f' : Nat → Value}
theorem FA.lt (F : FA Z h a ty n f) : a < h.size := by obtain ⟨c, A, -⟩ := F; exact A.lt
theorem FA.ext (F : FA Z h a ty n f) (E : Ext h h') : FA Z h' a ty n f := by obtain ⟨c, A, r⟩ := F; exact ⟨c, A.ext E, r⟩
theorem FA.other (F : FA Z h b ty n f) (W : Wr h h' a sl v) (q : b ≠ a) : FA Z h' b ty n f := by obtain ⟨c, A, r⟩ := F; exact ⟨c, A.other W q, r⟩
theorem FA.keep (F : FA Z h a ty n f) (K : Keep h h' ws) (q : a ∉ ws) : FA Z h' a ty n f := by obtain ⟨c, A, r⟩ := F; exact ⟨c, ⟨K.2.1 _ _ A.1 q, A.2⟩, r⟩
theorem FA.congr (F : FA Z h a ty n f) (q : ∀ i, i < n → f i = f' i) : FA Z h a ty n f' := by
  obtain ⟨c, A, r1, r2, r3⟩ := F
  exact ⟨c, A, r1, r2, fun i hi => by rw [r3 i hi, q i hi]⟩
theorem FA.new {k : ClassId} {z : Int32} (A : Arr Z h a (newA k ty z) ty) (q : ¬ z < 0) (hn : z.toNatClampNeg = n) {d : Value} (hd : defaultValue ty = d) : FA Z h a ty n (fun _ => d) := by
  subst hn hd
  refine ⟨_, A, sz_new _ _ _, (back32 q).2, fun i hi => ?_⟩
  show (Array.replicate z.toNatClampNeg (defaultValue ty))[i]? = _
  simp [hi]
theorem FA.set (F : FA Z h a ty n f) {k : Nat} (W : Wr h h' a k v) : FA Z h' a ty n (fun i => if i = k then v else f i) := by
  obtain ⟨c, A, r1, r2, r3⟩ := F
  refine ⟨c.setSlot k v, A.same W, by rw [sz_set]; exact r1, r2, fun i hi => ?_⟩
  show (c.slots.setIfInBounds k v)[i]? = _
  by_cases q : i = k
  · subst q; simp [r1, hi]
  · rw [Array.getElem?_setIfInBounds_ne (Ne.symm q), r3 i hi]; simp [q]
theorem FA.ne_ty (F : FA Z h a ty n f) (G : FA Z h b ty' n' f') (q : ty ≠ ty') : a ≠ b := fun e => by
  subst e
  obtain ⟨c, A, -⟩ := F
  obtain ⟨c', A', -⟩ := G
  cases A.1.symm.trans A'.1
  obtain ⟨-, k1, j1, comp, j2⟩ := A.2.1
  obtain ⟨-, k2, i1, comp', i2⟩ := A'.2.1
  cases j1.symm.trans i1
  rw [j2] at i2
  cases i2
  exact q rfl
theorem Obj.ne_fa {kk : Nat} (O : Obj Z h a C sch vs) (wi : (Cond.instantiable C kk).before a0 Z = true) (F : FA Z h b ty n f) : a ≠ b := by
  obtain ⟨c, A, -⟩ := F
  exact ne_arr O.1 wi A
theorem nat_at {j : Int32} {k : Nat} (hk : j.toInt = (k : Int)) : j.toNatClampNeg = k ∧ ¬ j < 0 := by
  refine ⟨by show j.toInt.toNat = k; rw [hk]; rfl, fun q => ?_⟩
  rw [Int32.lt_iff_toInt_lt, hk] at q
  have : (0 : Int32).toInt = 0 := by decide
  omega
theorem inb {j : Int32} {k : Nat} {c : Cell} (hk : j.toInt = (k : Int)) (hn : c.slots.size = n) (hl : k < n) : ¬ (j < 0 ∨ c.slots.size ≤ j.toNatClampNeg) := by
  obtain ⟨h1, h2⟩ := nat_at hk
  rw [h1, hn]
  rintro (q | q)
  · exact h2 q
  · omega
theorem own_laload (X : Stand p l e R s m args below meth c T locs cells slots) (hx : p.tables.exec = Jvm.exec) (hZ : Z.Warmed39 s.vm) (eT : T.heap = h) (F : FA Z h a .long n f) {j : Int32} (k : Nat) (hk : j.toInt = (k : Int)) (hl : k < n) (hv : f k = v)
    {g : JFrame} (hg : g.method = m) {rest : List Value} (hs : g.stack = .int j :: .ref a :: rest) (hd : decode c.code g.pc = .ok (.laload, 1)) : ∀ target, Steps p.tables e below (T.setTop { g with pc := g.pc + 1, stack := v :: rest }) target → Steps p.tables e below (T.setTop g) target := by
  obtain ⟨cl, A, r1, r2, r3⟩ := F
  exact fun t k' => X.laload hx (by rw [eT]; exact A.1) (State.isArrayOf_alike hZ.alike A.2.1) A.2.2 (inb hk r1 hl) (by rw [(nat_at hk).1, r3 k hl, hv]) hg hs hd t k'
theorem own_iaload (X : Stand p l e R s m args below meth c T locs cells slots) (hx : p.tables.exec = Jvm.exec) (hZ : Z.Warmed39 s.vm) (eT : T.heap = h) (F : FA Z h a .int n f) {j : Int32} (k : Nat) (hk : j.toInt = (k : Int)) (hl : k < n) (hv : f k = v)
    {g : JFrame} (hg : g.method = m) {rest : List Value} (hs : g.stack = .int j :: .ref a :: rest) (hd : decode c.code g.pc = .ok (.iaload, 1)) : ∀ target, Steps p.tables e below (T.setTop { g with pc := g.pc + 1, stack := v :: rest }) target → Steps p.tables e below (T.setTop g) target := by
  obtain ⟨cl, A, r1, r2, r3⟩ := F
  exact fun t k' => X.iaload hx (by rw [eT]; exact A.1) (State.isArrayOf_alike hZ.alike A.2.1) A.2.2 (inb hk r1 hl) (by rw [(nat_at hk).1, r3 k hl, hv]) hg hs hd t k'
theorem own_baload (X : Stand p l e R s m args below meth c T locs cells slots) (hx : p.tables.exec = Jvm.exec) (hZ : Z.Warmed39 s.vm) (eT : T.heap = h) (F : FA Z h a .byte n f) {j : Int32} (k : Nat) (hk : j.toInt = (k : Int)) (hl : k < n) (hv : f k = v)
    {g : JFrame} (hg : g.method = m) {rest : List Value} (hs : g.stack = .int j :: .ref a :: rest) (hd : decode c.code g.pc = .ok (.baload, 1)) : ∀ target, Steps p.tables e below (T.setTop { g with pc := g.pc + 1, stack := v :: rest }) target → Steps p.tables e below (T.setTop g) target := by
  obtain ⟨cl, A, r1, r2, r3⟩ := F
  exact fun t k' => X.baloadBytes hx (by rw [eT]; exact A.1) (State.isArrayOf_alike hZ.alike A.2.1) A.2.2 (inb hk r1 hl) (by rw [(nat_at hk).1, r3 k hl, hv]) hg hs hd t k'
theorem own_aaload (X : Stand p l e R s m args below meth c T locs cells slots) (hx : p.tables.exec = Jvm.exec) (hZ : Z.Warmed39 s.vm) (eT : T.heap = h) (F : FA Z h a ty n f) (hty : ty.isReference = true) {j : Int32} (k : Nat) (hk : j.toInt = (k : Int)) (hl : k < n) (hv : f k = v)
    {g : JFrame} (hg : g.method = m) {rest : List Value} (hs : g.stack = .int j :: .ref a :: rest) (hd : decode c.code g.pc = .ok (.aaload, 1)) : ∀ target, Steps p.tables e below (T.setTop { g with pc := g.pc + 1, stack := v :: rest }) target → Steps p.tables e below (T.setTop g) target := by
  obtain ⟨cl, A, r1, r2, r3⟩ := F
  exact fun t k' => X.aaload hx (by rw [eT]; exact A.1) (State.isArrayOf_alike hZ.alike A.2.1) hty A.2.2 (inb hk r1 hl) (by rw [(nat_at hk).1, r3 k hl, hv]) hg hs hd t k'
theorem own_len (X : Stand p l e R s m args below meth c T locs cells slots) (hx : p.tables.exec = Jvm.exec) (hZ : Z.Warmed39 s.vm) (eT : T.heap = h) (F : FA Z h a ty n f) {z : Int32} (hz : n.toInt32 = z)
    {g : JFrame} (hg : g.method = m) {rest : List Value} (hs : g.stack = .ref a :: rest) (hd : decode c.code g.pc = .ok (.arraylength, 1)) : ∀ target, Steps p.tables e below (T.setTop { g with pc := g.pc + 1, stack := .int z :: rest }) target → Steps p.tables e below (T.setTop g) target := by
  obtain ⟨cl, A, r1, r2, r3⟩ := F
  refine fun t k' => X.arraylength hx (by rw [eT]; exact A.1) (State.isArrayOf_alike hZ.alike A.2.1) hg hs hd t ?_
  rw [r1, hz]; exact k'
theorem own_iastore (X : Stand p l e R s m args below meth c T locs cells slots) (hx : p.tables.exec = Jvm.exec) (hZ : Z.Warmed39 s.vm) (eT : T.heap = h) (F : FA Z h a .int n f) {j x : Int32} (k : Nat) (hk : j.toInt = (k : Int)) (hl : k < n)
    {g : JFrame} (hg : g.method = m) {rest : List Value} (hs : g.stack = .int x :: .int j :: .ref a :: rest) (hd : decode c.code g.pc = .ok (.iastore, 1)) :
    ∃ T' h', Stand p l e R s m args below meth c T' (locs ++ [⟨a, k⟩]) cells slots ∧ T'.heap = h' ∧ Wr h h' a k (.int x) ∧ ∀ target, Steps p.tables e below (T'.setTop { g with pc := g.pc + 1, stack := rest }) target → Steps p.tables e below (T.setTop g) target := by
  obtain ⟨cl, A, r1, r2, r3⟩ := F
  have q := stI X hx hZ eT A (x := x) (inb hk r1 hl) hg hs hd
  rw [(nat_at hk).1] at q
  exact q
theorem own_lastore (X : Stand p l e R s m args below meth c T locs cells slots) (hx : p.tables.exec = Jvm.exec) (hZ : Z.Warmed39 s.vm) (eT : T.heap = h) (F : FA Z h a .long n f) {j : Int32} {x : Int64} (k : Nat) (hk : j.toInt = (k : Int)) (hl : k < n)
    {g : JFrame} (hg : g.method = m) {rest : List Value} (hs : g.stack = .long x :: .int j :: .ref a :: rest) (hd : decode c.code g.pc = .ok (.lastore, 1)) :
    ∃ T' h', Stand p l e R s m args below meth c T' (locs ++ [⟨a, k⟩]) cells slots ∧ T'.heap = h' ∧ Wr h h' a k (.long x) ∧ ∀ target, Steps p.tables e below (T'.setTop { g with pc := g.pc + 1, stack := rest }) target → Steps p.tables e below (T.setTop g) target := by
  obtain ⟨cl, A, r1, r2, r3⟩ := F
  have q := stJ X hx hZ eT A (x := x) (inb hk r1 hl) hg hs hd
  rw [(nat_at hk).1] at q
  exact q
theorem own_bastore (X : Stand p l e R s m args below meth c T locs cells slots) (hx : p.tables.exec = Jvm.exec) (hZ : Z.Warmed39 s.vm) (eT : T.heap = h) (F : FA Z h a .byte n f) {j x : Int32} (k : Nat) (hk : j.toInt = (k : Int)) (hl : k < n)
    {g : JFrame} (hg : g.method = m) {rest : List Value} (hs : g.stack = .int x :: .int j :: .ref a :: rest) (hd : decode c.code g.pc = .ok (.bastore, 1)) :
    ∃ T' h', Stand p l e R s m args below meth c T' (locs ++ [⟨a, k⟩]) cells slots ∧ T'.heap = h' ∧ Wr h h' a k (.int (nar .byte x)) ∧ ∀ target, Steps p.tables e below (T'.setTop { g with pc := g.pc + 1, stack := rest }) target → Steps p.tables e below (T.setTop g) target := by
  obtain ⟨cl, A, r1, r2, r3⟩ := F
  have q := stB X hx hZ eT A (x := x) (inb hk r1 hl) hg hs hd
  rw [(nat_at hk).1] at q
  exact q
/-- the typed updates -/
def updL (f : Nat → Int64) (k : Nat) (x : Int64) : Nat → Int64 := fun i => if i = k then x else f i
def updI (f : Nat → Int32) (k : Nat) (x : Int32) : Nat → Int32 := fun i => if i = k then x else f i
theorem FA.setL {f : Nat → Int64} {x : Int64} (F : FA Z h a ty n (fun i => .long (f i))) {k : Nat} (W : Wr h h' a k (.long x)) : FA Z h' a ty n (fun i => .long (updL f k x i)) :=
  (F.set W).congr fun i _ => by by_cases q : i = k <;> simp [updL, q]
theorem FA.setI {f : Nat → Int32} {x : Int32} (F : FA Z h a ty n (fun i => .int (f i))) {k : Nat} (W : Wr h h' a k (.int x)) : FA Z h' a ty n (fun i => .int (updI f k x i)) :=
  (F.set W).congr fun i _ => by by_cases q : i = k <;> simp [updI, q]
/-- a call by a contract, whatever it writes or makes: static, virtual, a constructor's -/
theorem own_callS (X : Stand p l e R s m args below meth c T locs cells slots) (hx : p.tables.exec = Jvm.exec) (hZ : Z.Warmed39 s.vm) {own : String} {index : Nat} {y : MethodName} {bytes : ByteArray} {maxL : Nat} {ret : Option FieldType} {rm : Room} {Q : Option Value → Heap → List Loc → Prop} {argsL rest : List Value} {g : JFrame}
    (hown : s.vm.findClass own = some m.cls) (w1 : (Cond.methodLink own index y).before a0 Z = true) (w2 : (Cond.static y).before a0 Z = true) (w3 : (Cond.initialized y.cls).before a0 Z = true) (w4 : (Cond.code y bytes maxL ret).before a0 Z = true)
    (hy : y.cls ≠ "java/lang/invoke/MethodHandle" ∧ y.cls ≠ "java/lang/invoke/VarHandle")
    (hM : MetFree l y (head1 [Cond.code y bytes maxL ret] rm) (fun a U => a = argsL.toArray ∧ Z.Warmed39 U.vm ∧ U.heap = h) (fun _ _ _ _ _ => True) (fun _ U o U' => ∃ v L, o = .returned v ∧ Q v U'.heap L ∧ FrameEnd U o U' L rm.cells rm.slots))
    (eT : T.heap = h) (hg : g.method = m) (hsize : g.locals.size = c.maxLocals) (hlen : ∀ sig, parseMethodDescriptor y.desc = some sig → argsL.length = sig.parameters.length) (hstack : g.stack = argsL.reverse ++ rest) {W : Nat} (hW : 2 * g.monitorRoom + (rest.map fun v => v.category).sum ≤ W)
    (hd : decode c.code g.pc = .ok (.invokestatic index, 3)) (hf : rm.frames + 1 ≤ R.frames) (hl : W + (maxL + 11) + rm.locals ≤ R.locals) (hc : cells + rm.cells ≤ R.cells) (hs : slots + rm.slots ≤ R.slots) :
    ∃ v T' L h', Stand p l e R s m args below meth c T' (locs ++ L) (cells + rm.cells) (slots + rm.slots) ∧ T'.heap = h' ∧ Q v h' L ∧ Steps p.tables e below (T.setTop g) (T'.setTop { g with pc := g.pc + 3, stack := v.toList ++ rest }) := by
  obtain ⟨v, _, ⟨T1, L1, k1, n1⟩, -, X1, ⟨Lc, hQ, l1, y1, z1⟩, st⟩ := Jvm.LawKit.callS X hx (y := y) hown (mvT hZ w1) (mvT hZ w2) (mvT hZ w3) (mvT hZ w4) hy (backOf (rm := rm) (W := W) hM hZ w4 w3 hf hl) (g := g) hg hsize (argsL := argsL) (rest := rest) hlen hstack hW hd (fun _ _ => ⟨rfl, eT, hc, hs⟩)
  dsimp only [Pt.U, Pt.locs, Pt.cells, Pt.slots] at X1 l1 y1 z1 st hQ
  subst l1 y1 z1
  exact ⟨v, T1, Lc, _, X1, rfl, hQ, st _ (Steps.refl _)⟩
theorem own_callV (X : Stand p l e R s m args below meth c T locs cells slots) (hx : p.tables.exec = Jvm.exec) (hZ : Z.Warmed39 s.vm) {own : String} {index : Nat} {y : MethodName} {bytes : ByteArray} {maxL : Nat} {ret : Option FieldType} {rm : Room} {Q : Option Value → Heap → List Loc → Prop} {argsL rest : List Value} {g : JFrame}
    (hown : s.vm.findClass own = some m.cls) (w1 : (Cond.methodLink own index y).before a0 Z = true) (w2 : (Cond.declares y).before a0 Z = true) (w3 : (Cond.selects C y y).before a0 Z = true) (w4 : (Cond.instanceMethod y).before a0 Z = true) (w5 : (Cond.code y bytes maxL ret).before a0 Z = true) (w6 : (Cond.initialized y.cls).before a0 Z = true)
    (hy : y.cls ≠ "java/lang/invoke/MethodHandle" ∧ y.cls ≠ "java/lang/invoke/VarHandle") (E : Exa Z h b C)
    (hM : MetFree l y (head1 [Cond.code y bytes maxL ret] rm) (fun a U => a = (.ref b :: argsL).toArray ∧ Z.Warmed39 U.vm ∧ U.heap = h) (fun _ _ _ _ _ => True) (fun _ U o U' => ∃ v L, o = .returned v ∧ Q v U'.heap L ∧ FrameEnd U o U' L rm.cells rm.slots))
    (eT : T.heap = h) (hg : g.method = m) (hsize : g.locals.size = c.maxLocals) (hlen : ∀ sig, parseMethodDescriptor y.desc = some sig → argsL.length = sig.parameters.length) (hstack : g.stack = argsL.reverse ++ .ref b :: rest) {W : Nat} (hW : 2 * g.monitorRoom + (rest.map fun v => v.category).sum ≤ W)
    (hd : decode c.code g.pc = .ok (.invokevirtual index, 3)) (hf : rm.frames + 1 ≤ R.frames) (hl : W + (maxL + 11) + rm.locals ≤ R.locals) (hc : cells + rm.cells ≤ R.cells) (hs : slots + rm.slots ≤ R.slots) :
    ∃ v T' L h', Stand p l e R s m args below meth c T' (locs ++ L) (cells + rm.cells) (slots + rm.slots) ∧ T'.heap = h' ∧ Q v h' L ∧ Steps p.tables e below (T.setTop g) (T'.setTop { g with pc := g.pc + 3, stack := v.toList ++ rest }) := by
  obtain ⟨cq, kq, qa, qb, qc⟩ := isOf hZ eT E
  obtain ⟨v, _, ⟨T1, L1, k1, n1⟩, -, X1, ⟨Lc, hQ, l1, y1, z1⟩, st⟩ := X.virtualBack hx (y := y) (z := y) hown (mvT hZ w1) (mvT hZ w2) (notFace_of_selects (args := #[]) (mvT hZ w3)) (mvT hZ w3) (mvT hZ w4) hy (backOf (rm := rm) (W := W) hM hZ w5 w6 hf hl) qa qc (g := g) hg hsize (Steps.refl _) (argsL := argsL) (rest := rest) hlen hstack hW hd (fun _ _ => ⟨rfl, eT, hc, hs⟩)
  dsimp only [Pt.U, Pt.locs, Pt.cells, Pt.slots] at X1 l1 y1 z1 st hQ
  subst l1 y1 z1
  exact ⟨v, T1, Lc, _, X1, rfl, hQ, st⟩
theorem own_callI (X : Stand p l e R s m args below meth c T locs cells slots) (hx : p.tables.exec = Jvm.exec) (hZ : Z.Warmed39 s.vm) {own : String} {index : Nat} {y : MethodName} {bytes : ByteArray} {maxL : Nat} {rm : Room} {Q : Option Value → Heap → List Loc → Prop} {argsL rest : List Value} {g : JFrame} (hy1 : y.name = "<init>")
    (hown : s.vm.findClass own = some m.cls) (w1 : (Cond.methodLink own index y).before a0 Z = true) (w2 : (Cond.instanceMethod y).before a0 Z = true) (w3 : (Cond.code y bytes maxL none).before a0 Z = true) (w4 : (Cond.initialized y.cls).before a0 Z = true)
    (hy : y.cls ≠ "java/lang/invoke/MethodHandle" ∧ y.cls ≠ "java/lang/invoke/VarHandle")
    (hM : MetFree l y (head1 [Cond.code y bytes maxL none] rm) (fun a U => a = (.ref b :: argsL).toArray ∧ Z.Warmed39 U.vm ∧ U.heap = h) (fun _ _ _ _ _ => True) (fun _ U o U' => ∃ v L, o = .returned v ∧ Q v U'.heap L ∧ FrameEnd U o U' L rm.cells rm.slots))
    (eT : T.heap = h) (hg : g.method = m) (hsize : g.locals.size = c.maxLocals) (hlen : ∀ sig, parseMethodDescriptor y.desc = some sig → argsL.length = sig.parameters.length) (hstack : g.stack = argsL.reverse ++ .ref b :: rest) {W : Nat} (hW : 2 * g.monitorRoom + (rest.map fun v => v.category).sum ≤ W)
    (hd : decode c.code g.pc = .ok (.invokespecial index, 3)) (hf : rm.frames + 1 ≤ R.frames) (hl : W + (maxL + 11) + rm.locals ≤ R.locals) (hc : cells + rm.cells ≤ R.cells) (hs : slots + rm.slots ≤ R.slots) :
    ∃ v T' L h', Stand p l e R s m args below meth c T' (locs ++ L) (cells + rm.cells) (slots + rm.slots) ∧ T'.heap = h' ∧ Q v h' L ∧ Steps p.tables e below (T.setTop g) (T'.setTop { g with pc := g.pc + 3, stack := v.toList ++ rest }) := by
  obtain ⟨v, _, ⟨T1, L1, k1, n1⟩, -, X1, ⟨Lc, hQ, l1, y1, z1⟩, st⟩ := X.specialBack hx (y := y) hy1 hown (mvT hZ w1) (mvT hZ w2) (mvT hZ w3) hy (backOf (rm := rm) (W := W) hM hZ w3 w4 hf hl) (g := g) hg hsize (Steps.refl _) (a := b) (argsL := argsL) (rest := rest) hlen hstack hW hd (fun _ _ => ⟨rfl, eT, hc, hs⟩)
  dsimp only [Pt.U, Pt.locs, Pt.cells, Pt.slots] at X1 l1 y1 z1 st hQ
  subst l1 y1 z1
  exact ⟨v, T1, Lc, _, X1, rfl, hQ, st⟩
end Own2
section Own3
variable {p : Program} {l : Launch} {e : Env} {R : Room} {s : State} {m : MethodId} {args : Array Value} {below : List Frame} {meth : Method} {c : Code} {T : State} {locs : List Loc} {cells slots : Nat} {Z : State} {a0 : Array Value} {h h' : Heap} {a b : Addr} {C : String}
/-- a call of an instance method that writes nothing -/
theorem own_callR (X : Stand p l e R s m args below meth c T locs cells slots) (hx : p.tables.exec = Jvm.exec) (hZ : Z.Warmed39 s.vm) {own : String} {index : Nat} {y : MethodName} {bytes : ByteArray} {maxL : Nat} {ret : Option FieldType} {fr lo : Nat} {r : Value} {argsL rest : List Value} {g : JFrame}
    (hown : s.vm.findClass own = some m.cls) (w1 : (Cond.methodLink own index y).before a0 Z = true) (w2 : (Cond.declares y).before a0 Z = true) (w3 : (Cond.selects C y y).before a0 Z = true) (w4 : (Cond.instanceMethod y).before a0 Z = true) (w5 : (Cond.code y bytes maxL ret).before a0 Z = true) (w6 : (Cond.initialized y.cls).before a0 Z = true)
    (hy : y.cls ≠ "java/lang/invoke/MethodHandle" ∧ y.cls ≠ "java/lang/invoke/VarHandle") (E : Exa Z h b C)
    (hM : MetFree l y (head1 [Cond.code y bytes maxL ret] ({ frames := fr, cells := 0, slots := 0, locals := lo } : Room)) (fun a U => a = (.ref b :: argsL).toArray ∧ Z.Warmed39 U.vm ∧ U.heap = h) (fun _ _ _ _ _ => True) (fun _ U o U' => ∃ v L, o = .returned v ∧ QP r h v U'.heap L ∧ FrameEnd U o U' L 0 0))
    (eT : T.heap = h) (hg : g.method = m) (hsize : g.locals.size = c.maxLocals) (hlen : ∀ sig, parseMethodDescriptor y.desc = some sig → argsL.length = sig.parameters.length) (hstack : g.stack = argsL.reverse ++ .ref b :: rest) {W : Nat} (hW : 2 * g.monitorRoom + (rest.map fun v => v.category).sum ≤ W)
    (hd : decode c.code g.pc = .ok (.invokevirtual index, 3)) (hf : fr + 1 ≤ R.frames) (hl : W + (maxL + 11) + lo ≤ R.locals) (hc : cells ≤ R.cells) (hs : slots ≤ R.slots) :
    ∃ T', Stand p l e R s m args below meth c T' locs cells slots ∧ T'.heap = h ∧ ∀ target, Steps p.tables e below (T'.setTop { g with pc := g.pc + 3, stack := r :: rest }) target → Steps p.tables e below (T.setTop g) target := by
  obtain ⟨v, T1, L1, h1, X1, e1, ⟨rfl, rfl, q⟩, st⟩ := own_callV X hx hZ hown w1 w2 w3 w4 w5 w6 hy E (rm := ({ frames := fr, cells := 0, slots := 0, locals := lo } : Room)) hM eT hg hsize hlen hstack hW hd hf hl hc hs
  rw [List.append_nil] at X1
  exact ⟨T1, X1, e1.trans q, fun t k => st.trans k⟩
/-- a call of a private instance method by its contract -/
theorem own_callX (X : Stand p l e R s m args below meth c T locs cells slots) (hx : p.tables.exec = Jvm.exec) (hZ : Z.Warmed39 s.vm) {own : String} {index : Nat} {y : MethodName} {bytes : ByteArray} {maxL kk : Nat} {ret : Option FieldType} {rm : Room} {Q : Option Value → Heap → List Loc → Prop} {argsL rest : List Value} {g : JFrame}
    (hown : s.vm.findClass own = some m.cls) (w1 : (Cond.methodLink own index y).before a0 Z = true) (w2 : (Cond.instanceMethod y).before a0 Z = true) (w3 : (Cond.privateMethod y).before a0 Z = true) (w4 : (Cond.code y bytes maxL ret).before a0 Z = true) (w5 : (Cond.initialized y.cls).before a0 Z = true) (w6 : (Cond.instantiable y.cls kk).before a0 Z = true)
    (hy : y.cls ≠ "java/lang/invoke/MethodHandle" ∧ y.cls ≠ "java/lang/invoke/VarHandle") (E : Exa Z h b C)
    (hM : MetFree l y (head1 [Cond.code y bytes maxL ret] rm) (fun a U => a = (.ref b :: argsL).toArray ∧ Z.Warmed39 U.vm ∧ U.heap = h) (fun _ _ _ _ _ => True) (fun _ U o U' => ∃ v L, o = .returned v ∧ Q v U'.heap L ∧ FrameEnd U o U' L rm.cells rm.slots))
    (eT : T.heap = h) (hg : g.method = m) (hsize : g.locals.size = c.maxLocals) (hlen : ∀ sig, parseMethodDescriptor y.desc = some sig → argsL.length = sig.parameters.length) (hstack : g.stack = argsL.reverse ++ .ref b :: rest) {W : Nat} (hW : 2 * g.monitorRoom + (rest.map fun v => v.category).sum ≤ W)
    (hd : decode c.code g.pc = .ok (.invokevirtual index, 3)) (hf : rm.frames + 1 ≤ R.frames) (hl : W + (maxL + 11) + rm.locals ≤ R.locals) (hc : cells + rm.cells ≤ R.cells) (hs : slots + rm.slots ≤ R.slots) :
    ∃ v T' L h', Stand p l e R s m args below meth c T' (locs ++ L) (cells + rm.cells) (slots + rm.slots) ∧ T'.heap = h' ∧ Q v h' L ∧ Steps p.tables e below (T.setTop g) (T'.setTop { g with pc := g.pc + 3, stack := v.toList ++ rest }) := by
  have v2 : (Cond.instanceMethod y).before args s = true := mvT hZ w2
  have v4 : (Cond.code y bytes maxL ret).before args s = true := mvT hZ w4
  have v6 : (Cond.instantiable y.cls kk).before args s = true := mv hZ w6
  obtain ⟨mk, me, n1, n2, n3, n4⟩ := Cond.instanceMethod_spec v2
  obtain ⟨me', cM, n5, -, -, -, -, -, -, n6⟩ := Cond.code_spec n1 v4
  cases n2.symm.trans n5
  obtain ⟨cI, kI, i1, i2, -, i4, -⟩ := Cond.instantiable_spec v6
  cases (findClass_of_methodNamed n1).symm.trans i1
  have ni : kI.isInterface = false := by simp only [Bool.or_eq_false_iff] at i4; exact i4.1
  obtain ⟨cell, c1, c2⟩ := E.cell
  have pr := Cond.privateMethod_at (mvP hZ w3 (args := args)) mk me n1 n2
  obtain ⟨vm₁, X₁, s₁⟩ := X.invokevirtual hx hown (mvT hZ w1) n1 n2 n3 i2 ni hy (a := b) (cell := cell) (by rw [eT]; exact c1) c2 (selectMethod_private n2 pr) n2 n4 i2 ni (g := g) hg (argsL := argsL) (rest := rest) (hlen _ n6) hstack hd
  obtain ⟨v, ⟨T1, L1, k1, n1'⟩, X1, ⟨Lc, hQ, l1, y1, z1⟩, st⟩ := backOf (rm := rm) (W := W) hM hZ w4 w5 hf hl m meth c ⟨T.setVm vm₁, locs, cells, slots⟩ { g with stack := rest } (.invokevirtual index) mk (.ref b :: argsL).toArray X₁ hg hsize hd hW (X₁.named n1) ⟨rfl, eT, hc, hs⟩
  dsimp only [Pt.U, Pt.locs, Pt.cells, Pt.slots] at X1 l1 y1 z1 st hQ
  subst l1 y1 z1
  exact ⟨v, T1, Lc, _, X1, rfl, hQ, (s₁ _ fun acts => by rw [doInvoke_state]; exact Steps.refl _).trans st⟩
theorem own_callXR (X : Stand p l e R s m args below meth c T locs cells slots) (hx : p.tables.exec = Jvm.exec) (hZ : Z.Warmed39 s.vm) {own : String} {index : Nat} {y : MethodName} {bytes : ByteArray} {maxL kk : Nat} {ret : Option FieldType} {fr lo : Nat} {r : Value} {argsL rest : List Value} {g : JFrame}
    (hown : s.vm.findClass own = some m.cls) (w1 : (Cond.methodLink own index y).before a0 Z = true) (w2 : (Cond.instanceMethod y).before a0 Z = true) (w3 : (Cond.privateMethod y).before a0 Z = true) (w4 : (Cond.code y bytes maxL ret).before a0 Z = true) (w5 : (Cond.initialized y.cls).before a0 Z = true) (w6 : (Cond.instantiable y.cls kk).before a0 Z = true)
    (hy : y.cls ≠ "java/lang/invoke/MethodHandle" ∧ y.cls ≠ "java/lang/invoke/VarHandle") (E : Exa Z h b C)
    (hM : MetFree l y (head1 [Cond.code y bytes maxL ret] ({ frames := fr, cells := 0, slots := 0, locals := lo } : Room)) (fun a U => a = (.ref b :: argsL).toArray ∧ Z.Warmed39 U.vm ∧ U.heap = h) (fun _ _ _ _ _ => True) (fun _ U o U' => ∃ v L, o = .returned v ∧ QP r h v U'.heap L ∧ FrameEnd U o U' L 0 0))
    (eT : T.heap = h) (hg : g.method = m) (hsize : g.locals.size = c.maxLocals) (hlen : ∀ sig, parseMethodDescriptor y.desc = some sig → argsL.length = sig.parameters.length) (hstack : g.stack = argsL.reverse ++ .ref b :: rest) {W : Nat} (hW : 2 * g.monitorRoom + (rest.map fun v => v.category).sum ≤ W)
    (hd : decode c.code g.pc = .ok (.invokevirtual index, 3)) (hf : fr + 1 ≤ R.frames) (hl : W + (maxL + 11) + lo ≤ R.locals) (hc : cells ≤ R.cells) (hs : slots ≤ R.slots) :
    ∃ T', Stand p l e R s m args below meth c T' locs cells slots ∧ T'.heap = h ∧ ∀ target, Steps p.tables e below (T'.setTop { g with pc := g.pc + 3, stack := r :: rest }) target → Steps p.tables e below (T.setTop g) target := by
  obtain ⟨v, T1, L1, h1, X1, e1, ⟨rfl, rfl, q⟩, st⟩ := own_callX X hx hZ hown w1 w2 w3 w4 w5 w6 hy E (rm := ({ frames := fr, cells := 0, slots := 0, locals := lo } : Room)) hM eT hg hsize hlen hstack hW hd hf hl hc hs
  rw [List.append_nil] at X1
  exact ⟨T1, X1, e1.trans q, fun t k => st.trans k⟩
end Own3
section Own5
variable {p : Program} {l : Launch} {e : Env} {R : Room} {s : State} {m : MethodId} {args : Array Value} {below : List Frame} {meth : Method} {c : Code} {T : State} {locs : List Loc} {cells slots : Nat} {Z : State} {a0 : Array Value} {h h' : Heap} {a b : Addr} {ty : FieldType} {n n' : Nat} {f f' : Nat → Value}
theorem i32_of {n : Nat} (hn : n < 2 ^ 31) : (Int32.ofNat n).toInt = (n : Int) := by
  have h1 : (Int32.ofNat n).toInt = (n : Int).bmod (2 ^ 32) := Int32.toInt_ofNat'
  have h2 := bm32 (n : Int)
  have h3 := rng32 (Int32.ofNat n)
  rw [h1] at h3 ⊢
  omega
theorem FA.toArv (F : FA Z h a ty n f) (hf : ∀ i, i < n → fits ty (f i) = true) (d : Value) : ∃ k, Arv Z h a k ty (Int32.ofNat n) ((List.range n).map f) d := by
  obtain ⟨c, A, r1, r2, r3⟩ := F
  have hk := nat_at (i32_of r2)
  have hg : ∀ i, i < n → ((List.range n).map f).getD i d = f i := fun i hi => by simp [List.getD, hi]
  exact ⟨c.cls, c, A, rfl, by rw [r1, hk.1], hk.2, fun k hk => by rw [r3 k (by omega), hg k (by omega)], fun i hi => by rw [hg i (by omega)]; exact hf i (by omega)⟩
theorem FA.ofArv {k : ClassId} {z : Int32} {vs : List Value} {d : Value} (A : Arv Z h a k ty z vs d) (hz : z.toInt = (n : Int)) : FA Z h a ty n (fun i => vs.getD i d) := by
  obtain ⟨c, A1, -, r2, -, r4, -⟩ := A
  rw [(nat_at hz).1] at r2
  have hr := rng32 z
  exact ⟨c, A1, r2, by omega, fun i hi => r4 i (by omega)⟩
/-- System.arraycopy from the beginning of one array to the beginning of another of its kind -/
theorem own_arraycopy (X : Stand p l e R s m args below meth c T locs cells slots) (hx : p.tables.exec = Jvm.exec) (hZ : Z.Warmed39 s.vm) {own : String} {index : Nat} (hown : s.vm.findClass own = some m.cls)
    (w1 : (Cond.methodLink own index Jvm.Stand.acN).before a0 Z = true) (w2 : (Cond.native Jvm.Stand.acN).before a0 Z = true) (w3 : (Cond.static Jvm.Stand.acN).before a0 Z = true) (w4 : (Cond.initialized "java/lang/System").before a0 Z = true) (eT : T.heap = h)
    (A : FA Z h a ty n f) (B : FA Z h b ty n' f') (hty : refKind ty = false) (hfa : ∀ i, i < n → fits ty (f i) = true) (hfb : ∀ i, i < n' → fits ty (f' i) = true) {nn : Int32} (k : Nat) (hk : nn.toInt = (k : Int)) (hkn : k ≤ n) (hkn' : k ≤ n') {n0 : Nat} (N : Fr n0 locs) (ge : n0 ≤ b)
    {g : JFrame} (hg : g.method = m) (hsize : g.locals.size = c.maxLocals) {rest : List Value} (hs : g.stack = .int nn :: .int 0 :: .ref b :: .int 0 :: .ref a :: rest) (hd : decode c.code g.pc = .ok (.invokestatic index, 3))
    (hf : 1 ≤ R.frames) {W : Nat} (hW : 2 * g.monitorRoom + (rest.map fun v => v.category).sum ≤ W) (hlo : W + (nativeFrameWords "java/lang/System" "arraycopy" 5 + 11) ≤ R.locals) :
    ∃ T' h' L, Stand p l e R s m args below meth c T' L cells slots ∧ T'.heap = h' ∧ Fr n0 L ∧ Keep h h' [b] ∧ FA Z h' b ty n' (fun i => if i < k then f i else f' i) ∧
      ∀ target, Steps p.tables e below (T'.setTop { g with pc := g.pc + 3, stack := rest }) target → Steps p.tables e below (T.setTop g) target := by
  obtain ⟨kA, AA⟩ := A.toArv hfa (.int 0)
  obtain ⟨kB, BB⟩ := B.toArv hfb (.int 0)
  obtain ⟨c1, -, r1, r2, -⟩ := A
  obtain ⟨c2, -, q1, q2, -⟩ := B
  have ha := nat_at (i32_of r2)
  have hb := nat_at (i32_of q2)
  have hk' := nat_at hk
  have z0 : ((0 : Int32)).toNatClampNeg = 0 := rfl
  obtain ⟨T', h', L, X', e', N', K', V', st⟩ := cpA X hx hZ hown w1 w2 w3 w4 eT (sp := 0) (dp := 0) (nn := nn) AA BB (Or.inl ⟨rfl, hty⟩) (by decide) (by decide) hk'.2 (by rw [z0, hk'.1, ha.1]; omega) (by rw [z0, hk'.1, hb.1]; omega) rfl (by rw [z0, hk'.1]; simp; omega) N ge hg hsize hs hd hf hW hlo
  refine ⟨T', h', L, X', e', N', K', (FA.ofArv V' (i32_of q2)).congr fun i hi => ?_, st⟩
  rw [z0, hk'.1]
  simp only [List.take_zero, List.nil_append, Nat.zero_add]
  by_cases q : i < k
  · rw [if_pos q]
    simp only [List.getD]
    rw [List.getElem?_append_left (by simp; omega)]
    have : i < n := by omega
    simp [q, this]
  · rw [if_neg q]
    simp only [List.getD]
    rw [List.getElem?_append_right (by simp; omega)]
    have : k + (i - k) = i := by omega
    simp [this, hi]
end Own5
theorem pd_prV : parseMethodDescriptor "()V" = some ⟨[], none⟩ := by decide +kernel
theorem pd_pBrV : parseMethodDescriptor "(B)V" = some ⟨[.byte], none⟩ := by decide +kernel
theorem pd_pIrI : parseMethodDescriptor "(I)I" = some ⟨[.int], some .int⟩ := by decide +kernel
theorem pd_pIrV : parseMethodDescriptor "(I)V" = some ⟨[.int], none⟩ := by decide +kernel
theorem pd_pIIrI : parseMethodDescriptor "(II)I" = some ⟨[.int, .int], some .int⟩ := by decide +kernel
theorem pd_pJrJ : parseMethodDescriptor "(J)J" = some ⟨[.long], some .long⟩ := by decide +kernel
theorem pd_pJrV : parseMethodDescriptor "(J)V" = some ⟨[.long], none⟩ := by decide +kernel
theorem pd_paBIraB : parseMethodDescriptor "([BI)[B" = some ⟨[(.array .byte), .int], some (.array .byte)⟩ := by decide +kernel
def wrs (f : Nat → Int32) (k : Nat) (bs : List Int32) (i : Nat) : Int32 := if k ≤ i ∧ i < k + bs.length then bs.getD (i - k) 0 else f i
def Enc : Nat → List Int32 → Prop
  | _, [] => False
  | v, b :: bs => (v < 128 ∧ b.toInt = (v : Int) ∧ bs = []) ∨ (128 ≤ v ∧ b.toInt = ((v % 128 : Nat) : Int) - 128 ∧ Enc (v / 128) bs)
theorem own_ne16 {sz : Int32} {k : Nat} (hk : sz.toInt = (k : Int)) (hlt : k < 16) : ¬ sz = (16 : Int32) := by
  intro q
  have : (16 : Int32).toInt = 16 := by decide
  rw [q, this] at hk
  omega
theorem wrs_snoc (f : Nat → Int32) (k : Nat) (pre : List Int32) (b : Int32) : updI (wrs f k pre) (k + pre.length) b = wrs f k (pre ++ [b]) := by
  funext i
  simp only [updI, wrs, List.length_append, List.length_singleton]
  by_cases h1 : i = k + pre.length
  · subst h1
    rw [if_pos rfl, if_pos (by omega)]
    simp [List.getD, List.getElem?_append]
  · rw [if_neg h1]
    by_cases h2 : k ≤ i ∧ i < k + pre.length
    · rw [if_pos h2, if_pos (by omega)]
      simp only [List.getD]
      rw [List.getElem?_append_left (by omega)]
    · rw [if_neg h2, if_neg (by omega)]
theorem put_sz {cz : Int32} {k n : Nat} (h : cz.toInt = ((k + n : Nat) : Int)) (hl : k + n < 16) {b : Int32} {pre : List Int32} (hn : pre.length = n := by rfl) : (cz + (1 : Int32)).toInt = ((k + (pre ++ [b]).length : Nat) : Int) := by
  have h1 : (1 : Int32).toInt = 1 := by decide
  have h2 := c_iadd cz 1
  have h3 := rng32 (cz + 1)
  rw [List.length_append, List.length_singleton, hn]
  omega
theorem put_sz' {cz : Int32} {k n : Nat} (h : cz.toInt = ((k + n : Nat) : Int)) (hl : k + n < 16) {b : Int32} {pre : List Int32} (hn : pre.length = n := by rfl) : (cz + (1 : Int32)).toInt = ((k + (pre ++ [b]).length : Nat) : Int) := put_sz h hl hn
theorem put_len {pre : List Int32} {b : Int32} (h : pre.length + 1 ≤ 5) : (pre ++ [b]).length ≤ 5 := by simp; omega
theorem lt128 {cv : Int64} {u : Nat} (h : cv.toInt = (u : Int)) (hu : u < 128) : cv < (128 : Int64) := by
  have : (128 : Int64).toInt = 128 := by decide
  rw [Int64.lt_iff_toInt_lt, this]; omega
theorem lt128' {cv : Int64} {u : Nat} (h : cv.toInt = (u : Int)) (hu : cv < (128 : Int64)) : u < 128 := by
  have : (128 : Int64).toInt = 128 := by decide
  rw [Int64.lt_iff_toInt_lt, this] at hu; omega
theorem ge128 {cv : Int64} {u : Nat} (h : cv.toInt = (u : Int)) (hu : ¬ cv < (128 : Int64)) : 128 ≤ u := by
  have : (128 : Int64).toInt = 128 := by decide
  rw [Int64.lt_iff_toInt_lt, this] at hu; omega
theorem ush7 {cv : Int64} {u : Nat} (h : cv.toInt = (u : Int)) : ((cv.toUInt64 >>> ((7 : Int32) &&& 0x3f).toInt64.toUInt64).toInt64).toInt = ((u / 128 : Nat) : Int) := by
  have h1 := c_lushr cv 7 7 (by decide) (by decide)
  have h2 := rng64 cv
  omega
theorem enc_last {cv : Int64} {u : Nat} (h : cv.toInt = (u : Int)) (hu : u < 128) : Enc u [nar .byte ((cv.toInt32).toInt8.toInt32)] := by
  have h1 := c_l2i cv
  have h2 := c_i2b cv.toInt32
  have h3 := c_i2b (cv.toInt32.toInt8.toInt32)
  refine Or.inl ⟨hu, ?_, rfl⟩
  show (cv.toInt32.toInt8.toInt32.toInt8.toInt32).toInt = _
  omega
theorem or128 (x : Int64) : (x ||| (128 : Int64)).toInt % 256 = x.toInt % 128 + 128 := by
  have h1 := c_maskL (x ||| (128 : Int64)) 255 8 (by decide) (by decide)
  have h2 := c_maskL x 127 7 (by decide) (by decide)
  have e : ((x ||| (128 : Int64)) &&& 255) = ((128 : Int64) ||| (x &&& 127)) := by
    apply Int64.toBitVec.inj
    have key : ∀ i : Fin 64, ∀ b : Bool, ((b || (128#64).getLsbD i.val) && (255#64).getLsbD i.val) = ((128#64).getLsbD i.val || (b && (127#64).getLsbD i.val)) := by decide
    show ((x.toBitVec ||| 128#64) &&& 255#64) = (128#64 ||| (x.toBitVec &&& 127#64))
    apply BitVec.eq_of_getLsbD_eq
    intro i hi
    simp only [BitVec.getLsbD_and, BitVec.getLsbD_or]
    exact key ⟨i, hi⟩ _
  have h3 := c_orL 128 (x &&& 127) 7 (by decide) 128 (by decide) (by decide) (by omega) (by omega)
  have h4 := rng64 ((128 : Int64) ||| (x &&& 127))
  have h5 : (128 : Int64).toInt = 128 := by decide
  rw [e] at h1
  omega
theorem enc_more {cv : Int64} {u : Nat} {bs : List Int32} (h : cv.toInt = (u : Int)) (hu : 128 ≤ u) (hb : Enc (u / 128) bs) : Enc u ([nar .byte (((cv ||| (128 : Int64)).toInt32).toInt8.toInt32)] ++ bs) := by
  have h0 := or128 cv
  have h1 := c_l2i (cv ||| (128 : Int64))
  have h2 := c_i2b (cv ||| (128 : Int64)).toInt32
  have h3 := c_i2b ((cv ||| (128 : Int64)).toInt32.toInt8.toInt32)
  refine Or.inr ⟨hu, ?_, hb⟩
  show ((cv ||| (128 : Int64)).toInt32.toInt8.toInt32.toInt8.toInt32).toInt = _
  omega
theorem twice {ln : Int32} {u : Nat} (h : ln.toInt = (u : Int)) (hu : u < 2147483648) : ((2 : Int64) * (ln.toInt64)).toInt = ((2 * u : Nat) : Int) := by
  have h1 := c_i2l ln
  have h2 := c_lmul 2 ln.toInt64
  have h3 := rng64 ((2 : Int64) * ln.toInt64)
  have h4 : (2 : Int64).toInt = 2 := by decide
  rw [h4, h1, h] at h2
  omega
theorem byte_ge {b : Int32} {v : Nat} (h : b.toInt = (v : Int)) : ¬ b < (0 : Int32) := by
  have : (0 : Int32).toInt = 0 := by decide
  rw [Int32.lt_iff_toInt_lt, this]; omega
theorem byte_lt {b : Int32} {v : Nat} (h : b.toInt = ((v % 128 : Nat) : Int) - 128) : b < (0 : Int32) := by
  have : (0 : Int32).toInt = 0 := by decide
  rw [Int32.lt_iff_toInt_lt, this]; omega
theorem enc_pos : ∀ {v : Nat} {bs : List Int32}, Enc v bs → 0 < bs.length := by
  intro v bs h
  cases bs with
  | nil => exact absurd h (by simp [Enc])
  | cons b bs => simp
theorem enc_lt : ∀ {bs : List Int32} {v : Nat}, Enc v bs → bs.length ≤ 5 → v < 34359738368 := by
  have key : ∀ (bs : List Int32) (v : Nat), Enc v bs → v < 128 ^ bs.length := by
    intro bs
    induction bs with
    | nil => intro v h; exact absurd h (by simp [Enc])
    | cons b bs ih =>
      intro v h
      rcases h with ⟨h1, -, rfl⟩ | ⟨h1, -, h3⟩
      · simpa using h1
      · have := ih _ h3
        rw [List.length_cons, Nat.pow_succ]
        omega
  intro bs v h hl
  have h1 := key bs v h
  have h2 : 128 ^ bs.length ≤ 128 ^ 5 := Nat.pow_le_pow_right (by decide) hl
  omega
def EncAt (f : Nat → Int32) : Nat → List Nat → Nat → Prop
  | i, [], k => i = k
  | i, v :: vs, k => ∃ bs : List Int32, Enc v bs ∧ bs.length ≤ 5 ∧ (∀ j, j < bs.length → f (i + j) = bs.getD j 0) ∧ EncAt f (i + bs.length) vs k
theorem encat_le {f : Nat → Int32} : ∀ {vs : List Nat} {i k : Nat}, EncAt f i vs k → i ≤ k := by
  intro vs
  induction vs with
  | nil => intro i k h; exact Nat.le_of_eq h
  | cons v vs ih =>
    intro i k h
    obtain ⟨bs, -, -, -, h⟩ := h
    have := ih h
    omega
def hf (v : Nat) : Int64 := Int64.ofNat (v / 2)
def scanF : List Nat → Int64 → Int64 → Int64 → Int64 → Int64
  | [], at_, _, _, em => at_ + (em * (4 : Int64))
  | v :: vs, at_, bf_, of, em => if v % 2 = 1 then scanF vs (at_ + (hf v * (4 : Int64))) bf_ of em else if of < (bf_ + hf v) then (((at_ + (4 : Int64)) + of) - bf_) else scanF vs (at_ + ((4 : Int64) + hf v)) (bf_ + hf v) of em
theorem scan_odd {v : Nat} {vs : List Nat} {at_ bf_ of em : Int64} (h : v % 2 = 1) : scanF (v :: vs) at_ bf_ of em = scanF vs (at_ + (hf v * (4 : Int64))) bf_ of em := by rw [scanF, if_pos h]
theorem scan_hit {v : Nat} {vs : List Nat} {at_ bf_ of em : Int64} (h : ¬ v % 2 = 1) (h2 : of < (bf_ + hf v)) : scanF (v :: vs) at_ bf_ of em = (((at_ + (4 : Int64)) + of) - bf_) := by rw [scanF, if_neg h, if_pos h2]
theorem scan_even {v : Nat} {vs : List Nat} {at_ bf_ of em : Int64} (h : ¬ v % 2 = 1) (h2 : ¬ of < (bf_ + hf v)) : scanF (v :: vs) at_ bf_ of em = scanF vs (at_ + ((4 : Int64) + hf v)) (bf_ + hf v) of em := by rw [scanF, if_neg h, if_neg h2]
theorem hf_toInt {v : Nat} (h : v < 34359738368) : (hf v).toInt = ((v / 2 : Nat) : Int) := by
  have h1 : (Int64.ofNat (v / 2)).toInt = ((v / 2 : Nat) : Int).bmod (2 ^ 64) := Int64.toInt_ofNat'
  have h2 := bm64 ((v / 2 : Nat) : Int)
  have h3 := rng64 (Int64.ofNat (v / 2))
  rw [hf]
  rw [h1] at h3 ⊢
  omega
theorem half {vx : Int64} {v : Nat} (h : vx.toInt = (v : Int)) (hv : v < 34359738368) : ((vx.toUInt64 >>> ((1 : Int32) &&& 0x3f).toInt64.toUInt64).toInt64) = hf v := by
  apply Int64.toInt_inj.mp
  have h1 := c_lushr vx 1 1 (by decide) (by decide)
  rw [hf_toInt hv, h1]
  omega
theorem odd_of {vx : Int64} {v : Nat} (h : vx.toInt = (v : Int)) (h2 : ¬ (vx &&& (1 : Int64)) = (0 : Int64)) : v % 2 = 1 := by
  have h1 := c_maskL vx 1 1 (by decide) (by decide)
  have h0 : (0 : Int64).toInt = 0 := by decide
  rw [← Int64.toInt_inj, h1, h0] at h2
  omega
theorem even_of {vx : Int64} {v : Nat} (h : vx.toInt = (v : Int)) (h2 : (vx &&& (1 : Int64)) = (0 : Int64)) : ¬ v % 2 = 1 := by
  have h1 := c_maskL vx 1 1 (by decide) (by decide)
  have h0 : (0 : Int64).toInt = 0 := by decide
  rw [← Int64.toInt_inj, h1, h0] at h2
  omega
theorem at_end {ii sz : Int32} {i k : Nat} (h1 : ii.toInt = (i : Int)) (h2 : sz.toInt = (k : Int)) (h : i = k) : ¬ ii < sz := by rw [Int32.lt_iff_toInt_lt]; omega
theorem not_end {ii sz : Int32} {i k : Nat} (h1 : ii.toInt = (i : Int)) (h2 : sz.toInt = (k : Int)) (h : i < k) : ii < sz := by rw [Int32.lt_iff_toInt_lt]; omega
theorem inc_mid {ij : Int32} {pj : Nat} (h : ij.toInt = (pj : Int)) (hb : pj < 2147483647) : (ij + (1 : Int32)).toInt = ((pj + 1 : Nat) : Int) := by
  have h1 := c_iadd ij 1
  have h2 := rng32 (ij + 1)
  have h3 : (1 : Int32).toInt = 1 := by decide
  omega
theorem inc_last {ij : Int32} {pj pe : Nat} {b0 : Int32} (h : ij.toInt = (pj : Int)) (hb : pj < 2147483647) (he : pj + [b0].length = pe) : (ij + (1 : Int32)).toInt = ((pe : Nat) : Int) := by
  rw [inc_mid h hb, ← he]; rfl
theorem sh_mid {sh : Int32} {sk : Nat} (h : sh.toInt = (sk : Int)) (hb : sk ≤ 28) : (sh + (7 : Int32)).toInt = ((sk + 7 : Nat) : Int) := by
  have h1 := c_iadd sh 7
  have h2 := rng32 (sh + 7)
  have h3 : (7 : Int32).toInt = 7 := by decide
  omega
theorem low_mid {low u sk : Nat} (h : low < 2 ^ sk) : low + (u % 128) * 2 ^ sk < 2 ^ (sk + 7) := by
  rw [Nat.pow_add]
  have : u % 128 ≤ 127 := by omega
  have := Nat.mul_le_mul_right (2 ^ sk) this
  omega
theorem dec_V {V0 low u sk : Nat} (h : V0 = low + u * 2 ^ sk) : V0 = low + (u % 128) * 2 ^ sk + (u / 128) * 2 ^ (sk + 7) := by
  have e : u % 128 + 128 * (u / 128) = u := by omega
  have e1 : (u % 128 + 128 * (u / 128)) * 2 ^ sk = (u % 128) * 2 ^ sk + (u / 128) * (2 ^ sk * 2 ^ 7) := by
    rw [Nat.add_mul, Nat.mul_comm 128, Nat.mul_assoc, Nat.mul_comm 128]
  rw [e] at e1
  rw [h, e1, Nat.pow_add, Nat.add_assoc]
theorem wrs_nil (f : Nat → Int32) (k : Nat) : f = wrs f k [] := by
  funext i
  rw [wrs, if_neg (by simp only [List.length_nil]; omega)]
theorem dec_chunk {vl : Int64} {sh b : Int32} {low sk r : Nat} (hval : vl.toInt = (low : Int)) (hsh : sh.toInt = (sk : Int)) (hlow : low < 2 ^ sk) (hs : sk ≤ 28) (hb : (b &&& (127 : Int32)).toInt = (r : Int)) (hr : r < 128) : (vl ||| (((b &&& (127 : Int32)).toInt64) <<< (sh &&& 0x3f).toInt64)).toInt = ((low + r * 2 ^ sk : Nat) : Int) := by
  have hP : (2 : Nat) ^ sk ≤ 2 ^ 28 := Nat.pow_le_pow_right (by decide) hs
  have hM : r * 2 ^ sk ≤ 127 * 2 ^ 28 := Nat.mul_le_mul (by omega) hP
  have hk : sh.toBitVec.toNat % 64 = sk := by
    have h1 : sh.toInt = sh.toBitVec.toInt := rfl
    rw [BitVec.toInt_eq_toNat_cond] at h1
    have h2 := sh.toBitVec.isLt
    split at h1 <;> omega
  have h1 := c_lshl ((b &&& (127 : Int32)).toInt64) sh sk hk
  have h2 := rng64 (((b &&& (127 : Int32)).toInt64) <<< (sh &&& 0x3f).toInt64)
  rw [c_i2l, hb] at h1
  obtain ⟨a, ea⟩ : ∃ a, a = (((b &&& (127 : Int32)).toInt64) <<< (sh &&& 0x3f).toInt64) := ⟨_, rfl⟩
  rw [← ea] at h1 h2 ⊢
  have e1 : (r : Int) * ((2 ^ sk : Nat) : Int) = ((r * 2 ^ sk : Nat) : Int) := by simp
  rw [e1] at h1
  have h3 : a.toInt = ((r * 2 ^ sk : Nat) : Int) := by omega
  have h4 := c_orL' vl a sk (by omega) ((2 ^ sk : Nat) : Int) rfl (by rw [h3, ← e1]; exact Int.mul_emod_left _ _) (by omega) (by omega)
  have h5 := rng64 (vl ||| a)
  omega
theorem dec_mid {vl : Int64} {sh fb b0 : Int32} {low sk u : Nat} (hval : vl.toInt = (low : Int)) (hsh : sh.toInt = (sk : Int)) (hlow : low < 2 ^ sk) (hs : sk ≤ 28) (hf0 : fb = b0) (hb : b0.toInt = ((u % 128 : Nat) : Int) - 128) : (vl ||| (((fb &&& (127 : Int32)).toInt64) <<< (sh &&& 0x3f).toInt64)).toInt = ((low + (u % 128) * 2 ^ sk : Nat) : Int) := by
  have h1 := c_mask fb 127 7 (by decide) (by decide)
  subst hf0
  exact dec_chunk hval hsh hlow hs (by omega) (by omega)
theorem dec_last {vl : Int64} {sh fb b0 : Int32} {low sk u V0 : Nat} (hval : vl.toInt = (low : Int)) (hsh : sh.toInt = (sk : Int)) (hlow : low < 2 ^ sk) (hs : sk ≤ 28) (hf0 : fb = b0) (hb : b0.toInt = (u : Int)) (hu : u < 128) (hV : V0 = low + u * 2 ^ sk) : (vl ||| (((fb &&& (127 : Int32)).toInt64) <<< (sh &&& 0x3f).toInt64)).toInt = (V0 : Int) := by
  have h1 := c_mask fb 127 7 (by decide) (by decide)
  subst hf0
  rw [hV]
  exact dec_chunk hval hsh hlow hs (by omega) hu
theorem own_or {h0 : Heap} {a b cb : Addr} (h : cb = b ∨ h0.size ≤ cb) : cb ∈ [a, b] ∨ h0.size ≤ cb := by
  rcases h with rfl | h
  · exact Or.inl (by simp)
  · exact Or.inr h
theorem ne_len {sz : Int32} {k nc : Nat} (hk : sz.toInt = (k : Int)) (hlt : k < nc) (hnc : nc ≤ 1000) : ¬ sz = Int32.ofNat nc := by
  intro q
  have := i32_of (n := nc) (by omega)
  rw [q, this] at hk
  omega
theorem i32_16 {sz : Int32} {k : Nat} (hk : sz.toInt = (k : Int)) (h : k = 16) : sz = (16 : Int32) := by
  apply Int32.toInt_inj.mp
  rw [hk, h]
  decide
def Fit (f : Nat → Int32) (n : Nat) : Prop := ∀ i, i < n → fits .byte (.int (f i)) = true
def PS (f : Nat → Int32) (k : Nat) (pre : List Int32) (cf : Nat → Int32) (cn : Nat) : Prop := (∀ i, i < k → cf i = f i) ∧ (∀ j, j < pre.length → cf (k + j) = pre.getD j 0) ∧ Fit cf cn
theorem ps_nil {f : Nat → Int32} {k nc : Nat} (h : Fit f nc) : PS f k [] f nc := ⟨fun _ _ => rfl, fun j hj => absurd hj (by simp), h⟩
theorem getD_snoc {pre : List Int32} {b : Int32} {j : Nat} (hj : j < (pre ++ [b]).length) : (pre ++ [b]).getD j 0 = if j = pre.length then b else pre.getD j 0 := by
  rw [List.length_append, List.length_singleton] at hj
  by_cases h : j = pre.length
  · subst h
    rw [if_pos rfl]
    simp [List.getD]
  · rw [if_neg h]
    simp only [List.getD]
    rw [List.getElem?_append_left (by omega)]
theorem ps_snoc {f cf : Nat → Int32} {k cn : Nat} {pre : List Int32} {b : Int32} (h : PS f k pre cf cn) : PS f k (pre ++ [nar .byte b]) (updI cf (k + pre.length) (nar .byte b)) cn := by
  obtain ⟨h1, h2, h3⟩ := h
  refine ⟨fun i hi => ?_, fun j hj => ?_, fun i hi => ?_⟩
  · rw [updI, if_neg (by omega)]; exact h1 i hi
  · rw [getD_snoc hj]
    rw [List.length_append, List.length_singleton] at hj
    by_cases q : j = pre.length
    · subst q; rw [updI, if_pos rfl, if_pos rfl]
    · rw [updI, if_neg (by omega), if_neg q]; exact h2 j (by omega)
  · by_cases q : i = k + pre.length
    · rw [updI, if_pos q]; exact fits_nar_byte _
    · rw [updI, if_neg q]; exact h3 i hi
theorem ps_grow {f cf : Nat → Int32} {k : Nat} {pre : List Int32} {b : Int32} (h : PS f k pre cf 16) (e : k + pre.length = 16) : PS f k (pre ++ [nar .byte b]) (updI (fun i => if i < 16 then cf i else 0) 16 (nar .byte b)) 32 := by
  have h' : PS f k pre (fun i => if i < 16 then cf i else 0) 32 := by
    obtain ⟨h1, h2, h3⟩ := h
    refine ⟨fun i hi => ?_, fun j hj => ?_, fun i hi => ?_⟩
    · show (if i < 16 then cf i else 0) = _
      rw [if_pos (by omega)]; exact h1 i hi
    · show (if k + j < 16 then cf (k + j) else 0) = _
      rw [if_pos (by omega)]; exact h2 j hj
    · show fits .byte (.int (if i < 16 then cf i else 0)) = true
      by_cases q : i < 16
      · rw [if_pos q]; exact h3 i q
      · rw [if_neg q]; decide
  have := ps_snoc (b := b) h'
  rwa [e] at this
theorem put_szC {cz : Int32} {k : Nat} {pre : List Int32} {b : Int32} (h : cz.toInt = ((k + pre.length : Nat) : Int)) (hl : k + pre.length < 1000) : (cz + (1 : Int32)).toInt = ((k + (pre ++ [b]).length : Nat) : Int) := by
  have h1 : (1 : Int32).toInt = 1 := by decide
  have h2 := c_iadd cz 1
  have h3 := rng32 (cz + 1)
  rw [List.length_append, List.length_singleton]
  omega
theorem put_szG {k : Nat} {pre : List Int32} {b : Int32} (h : k + pre.length = 16) : (17 : Int32).toInt = ((k + (pre ++ [b]).length : Nat) : Int) := by
  rw [List.length_append, List.length_singleton, show k + (pre.length + 1) = 17 by omega]
  decide
theorem len_snoc {pre : List Int32} {b : Int32} : (pre ++ [b]).length = pre.length + 1 := by simp
theorem encat_ext {f f' : Nat → Int32} : ∀ {vs : List Nat} {i k : Nat}, EncAt f i vs k → (∀ j, j < k → f' j = f j) → ∀ {v : Nat} {bs : List Int32}, Enc v bs → bs.length ≤ 5 → (∀ j, j < bs.length → f' (k + j) = bs.getD j 0) → EncAt f' i (vs ++ [v]) (k + bs.length) := by
  intro vs
  induction vs with
  | nil =>
    intro i k h _ v bs hE hl hb
    obtain rfl : i = k := h
    exact ⟨bs, hE, hl, hb, rfl⟩
  | cons w vs ih =>
    intro i k h hf v bs hE hl hb
    obtain ⟨b0, e0, l0, q0, r0⟩ := h
    have hle := encat_le r0
    exact ⟨b0, e0, l0, fun j hj => by rw [hf _ (by omega)]; exact q0 j hj, ih r0 hf hE hl hb⟩
def addV (vs : List Nat) (en u : Nat) : List Nat := if u = 0 then vs else (if en = 0 then vs else vs ++ [2 * en + 1]) ++ [2 * u]
def addE (en u : Nat) : Nat := if u = 0 then en + 1 else 0
theorem odd_put {em : Int64} {en : Nat} (h : em.toInt = (en : Int)) (hn : en ≤ 4) : (((2 : Int64) * em) + (1 : Int64)).toInt = ((2 * en + 1 : Nat) : Int) := by
  have h2 := c_lmul 2 em
  have h3 := rng64 ((2 : Int64) * em)
  have h4 : (2 : Int64).toInt = 2 := by decide
  have h5 : (1 : Int64).toInt = 1 := by decide
  have h6 := c_ladd ((2 : Int64) * em) 1
  have h7 := rng64 (((2 : Int64) * em) + 1)
  rw [h4, h] at h2
  omega
theorem pos_em {em : Int64} {en : Nat} (h : em.toInt = (en : Int)) (hp : (0 : Int64) < em) : ¬ en = 0 := by
  have : (0 : Int64).toInt = 0 := by decide
  rw [Int64.lt_iff_toInt_lt, this] at hp
  omega
theorem zero_em {em : Int64} {en : Nat} (h : em.toInt = (en : Int)) (hp : ¬ (0 : Int64) < em) : en = 0 := by
  have : (0 : Int64).toInt = 0 := by decide
  rw [Int64.lt_iff_toInt_lt, this] at hp
  omega
theorem inc_em {em : Int64} {en : Nat} (h : em.toInt = (en : Int)) (hn : en ≤ 4) : (em + (1 : Int64)).toInt = ((en + 1 : Nat) : Int) := by
  have h5 : (1 : Int64).toInt = 1 := by decide
  have h6 := c_ladd em 1
  have h7 := rng64 (em + 1)
  omega
theorem ln_zero {ln : Int32} {u : Nat} (h : ln.toInt = (u : Int)) (hz : ln = (0 : Int32)) : u = 0 := by
  have : (0 : Int32).toInt = 0 := by decide
  rw [hz, this] at h; omega
theorem ln_pos {ln : Int32} {u : Nat} (h : ln.toInt = (u : Int)) (hz : ¬ ln = (0 : Int32)) : ¬ u = 0 := by
  intro q
  apply hz
  apply Int32.toInt_inj.mp
  rw [h, q]; decide
theorem addE_Z {em : Int64} {en u : Nat} (h : em.toInt = (en : Int)) (hn : en ≤ 4) (hu : u = 0) : (em + (1 : Int64)).toInt = ((addE en u : Nat) : Int) := by
  rw [addE, if_pos hu]; exact inc_em h hn
theorem addE_N {en u : Nat} (hu : ¬ u = 0) : (0 : Int64).toInt = ((addE en u : Nat) : Int) := by
  rw [addE, if_neg hu]; decide
theorem addV_Z {vs : List Nat} {en u : Nat} (hu : u = 0) : addV vs en u = vs := by rw [addV, if_pos hu]
theorem addV_1 {vs : List Nat} {en u : Nat} (hu : ¬ u = 0) (he : en = 0) : addV vs en u = vs ++ [2 * u] := by rw [addV, if_neg hu, if_pos he]
theorem addV_2 {vs : List Nat} {en u : Nat} (hu : ¬ u = 0) (he : ¬ en = 0) : addV vs en u = (vs ++ [2 * en + 1]) ++ [2 * u] := by rw [addV, if_neg hu, if_neg he]
def sch_fm : List (String × String) := [("entries", "[B"), ("start", "J"), ("size", "I"), ("empty", "J")]
theorem so_sch_fm {Z : State} {a0 : Array Value} (hw : ∀ d ∈ tables_1, d.before a0 Z = true) : SchOk Z a0 "com/example/fourfold/fourfold/xdr/FragmentMap" sch_fm := by
  refine ⟨fun q hq => ?_, by decide, by decide⟩
  simp only [sch_fm, List.mem_cons, List.not_mem_nil, or_false] at hq
  rcases hq with rfl | rfl | rfl | rfl
  · exact Or.inl (hw _ (List.mem_of_getElem? (i := 15) rfl))
  · exact Or.inl (hw _ (List.mem_of_getElem? (i := 22) rfl))
  · exact Or.inl (hw _ (List.mem_of_getElem? (i := 24) rfl))
  · exact Or.inl (hw _ (List.mem_of_getElem? (i := 26) rfl))
theorem d2_0 : decode prog_88_method_1_code 0 = .ok (.aload_n 0, 1) := by decide +kernel
theorem d2_1 : decode prog_88_method_1_code 1 = .ok (.invokespecial 1, 3) := by decide +kernel
theorem d2_4 : decode prog_88_method_1_code 4 = .ok (.aload_n 0, 1) := by decide +kernel
theorem d2_5 : decode prog_88_method_1_code 5 = .ok (.bipush 16, 2) := by decide +kernel
theorem d2_7 : decode prog_88_method_1_code 7 = .ok (.newarray .byte, 2) := by decide +kernel
theorem d2_9 : decode prog_88_method_1_code 9 = .ok (.putfield 7, 3) := by decide +kernel
theorem d2_12 : decode prog_88_method_1_code 12 = .ok (.return_, 1) := by decide +kernel
theorem pn_2 : plainName "com/example/fourfold/fourfold/xdr/FragmentMap" = true := by first | (simp [plainName, overriddenIn]; done) | decide +kernel
theorem ef_2 (m : MethodId) (x0 : Addr) : entryFrame m #[(.ref x0)] 1 = mkF m 0 #[.val (.ref x0)] [] := by first | (simp [entryFrame, mkF, argsToLocals, Value.category]; done) | rfl
def Q_init (Z : State) (a : Addr) (h0 : Heap) (n0 : Nat) (r : Option Value) (h : Heap) (L : List Loc) : Prop := r = none ∧ Fr n0 L ∧ Keep h0 h [a] ∧ ∃ b : Addr, h0.size ≤ b ∧ n0 ≤ b ∧ Obj Z h a "com/example/fourfold/fourfold/xdr/FragmentMap" sch_fm [(.ref b), (.long (0 : Int64)), (.int (0 : Int32)), (.long (0 : Int64))] ∧ FA Z h b .byte 16 (fun i => .int ((fun _ => (0 : Int32)) i))
set_option maxRecDepth 65536 in
set_option maxHeartbeats 40000000 in
theorem rm_init (l : Launch) (Z : State) (a0 : Array Value) (hw : ∀ d ∈ tables_1, d.before a0 Z = true) (ws : List Jvm.Cond) (a : Addr) (h0 : Heap) (n0 : Nat) (Z0 : n0 ≤ h0.size) (O0 : Obj Z h0 a "com/example/fourfold/fourfold/xdr/FragmentMap" sch_fm [.null, (.long (0 : Int64)), (.int (0 : Int32)), (.long (0 : Int64))]) (ga : n0 ≤ a) :
    MetFree l (⟨"com/example/fourfold/fourfold/xdr/FragmentMap", "<init>", "()V"⟩ : MethodName) (head1 (Jvm.Cond.code (⟨"com/example/fourfold/fourfold/xdr/FragmentMap", "<init>", "()V"⟩ : MethodName) prog_88_method_1_code 1 none :: ws) ({ frames := 1, cells := 1, slots := 16, locals := 12 } : Room)) (fun a_ U => a_ = #[(.ref a)] ∧ Z.Warmed39 U.vm ∧ U.heap = h0) (fun _ _ _ _ _ => True) (fun _ U o U' => ∃ v_ L_, o = .returned v_ ∧ Q_init Z a h0 n0 v_ U'.heap L_ ∧ FrameEnd U o U' L_ ({ frames := 1, cells := 1, slots := 16, locals := 12 } : Room).cells ({ frames := 1, cells := 1, slots := 16, locals := 12 } : Room).slots) := by
  refine MetFree.of_bodySF (plainFor_of_name pn_2) hisR ?_
  intro p e s m args below meth c s₁ Bd hml0 hP hK
  obtain ⟨rfl, hZ, hh⟩ := hP
  have hx := Bd.exec
  have hby := Bd.bytes
  have hlk : meth.locks = false := Bd.notSynchronized
  have hml : c.maxLocals = 1 := hml0
  have hown : s.vm.findClass "com/example/fourfold/fourfold/xdr/FragmentMap" = some m.cls := findClass_of_methodNamed Bd.named
  have hnm := (name_of_methodNamed Bd.named Bd.method).1
  have X0 : Stand p l e ({ frames := 1, cells := 1, slots := 16, locals := 12 } : Room) s m #[(.ref a)] below meth c s₁ [] 0 0 := Stand.of_body Bd
  have e0 : s₁.heap = h0 := by rw [← hh, Bd.state]; rfl
  have N0 := Fr.nil n0
  have K0 : Keep h0 h0 [a] := Keep.refl _ _
  show OEnds p e below s (Q_init Z a h0 n0) _ _ _
  refine own_by (fun t k => castTop (ef_2 m a) k) ?_
  show OEnds p e below s _ _ _ (s₁.setTop (mkF m 0 #[.val (.ref a)] []))
  refine own_by (fun _ k => XS.aloadN X0.here hx rfl (hb hby d2_0) rfl rfl k) ?_
  show OEnds p e below s _ _ _ (s₁.setTop (mkF m 1 #[.val (.ref a)] [(.ref a)]))
  obtain ⟨T1, X1, e1, st1⟩ := initO X0 hx hZ hown (hw _ (List.mem_of_getElem? (i := 10) rfl)) (hw _ (List.mem_of_getElem? (i := 11) rfl)) (hw _ (List.mem_of_getElem? (i := 12) rfl)) e0 (g := (mkF m 1 #[.val (.ref a)] [(.ref a)])) rfl (by rw [hml]; rfl) rfl (hb hby d2_1) (by decide) (W := 0) (by show 2 * 0 + _ ≤ _; exact Nat.le_of_eq rfl) (by decide)
  refine own_by (st1) ?_
  show OEnds p e below s _ _ _ (T1.setTop (mkF m 4 #[.val (.ref a)] []))
  refine own_by (fun _ k => XS.aloadN X1.here hx rfl (hb hby d2_4) rfl rfl k) ?_
  show OEnds p e below s _ _ _ (T1.setTop (mkF m 5 #[.val (.ref a)] [(.ref a)]))
  refine own_by (fun _ k => XS.bipush X1.here hx rfl (hb hby d2_5) k) ?_
  show OEnds p e below s _ _ _ (T1.setTop (mkF m 7 #[.val (.ref a)] [(.int (16 : Int32)), (.ref a)]))
  obtain ⟨T2, h2, k2, X2, e2, E2, A2, st2⟩ := newP X1 hx hZ (hw _ (List.mem_of_getElem? (i := 13) rfl)) e1 (g := (mkF m 7 #[.val (.ref a)] [(.int (16 : Int32)), (.ref a)])) rfl (hb hby d2_7) rfl (by decide) (cap := 16) (by decide) (by decide) (by decide) (by decide)
  obtain ⟨nb2, g2⟩ : ∃ z, z = h0.size := ⟨_, rfl⟩
  rw [← g2] at A2 st2
  refine own_by (st2) ?_
  have g_nb2 : n0 ≤ nb2 := Nat.le_trans Z0 (Nat.le_of_eq g2.symm)
  have sz_nb2 : h0.size ≤ nb2 := Nat.le_trans K0.1 (Nat.le_of_eq g2.symm)
  have K2 : Keep h0 h2 [a] := K0.ext E2
  have Z2 : n0 ≤ h2.size := Nat.le_trans Z0 E2.1
  have F2 : FA Z h2 nb2 .byte 16 (fun i => .int ((fun _ => (0 : Int32)) i)) := FA.new A2 (by decide) (by decide) rfl
  show OEnds p e below s _ _ _ (T2.setTop (mkF m 9 #[.val (.ref a)] [(.ref nb2), (.ref a)]))
  have O4 : Obj Z h2 a "com/example/fourfold/fourfold/xdr/FragmentMap" sch_fm [.null, (.long (0 : Int64)), (.int (0 : Int32)), (.long (0 : Int64))] := (O0.ext E2)
  obtain ⟨T3, h3, X3, e3, W3, st3⟩ := putF X2 hx hZ hown (host := "") (Or.inl (hw _ (List.mem_of_getElem? (i := 14) rfl))) Via.refl e2 (O4.fld 0 rfl rfl) O4.exa (Or.inl (hw _ (List.mem_of_getElem? (i := 15) rfl))) (hw _ (List.mem_of_getElem? (i := 5) rfl)) (ty := (.array .byte)) (by decide) rfl rfl (g := (mkF m 9 #[.val (.ref a)] [(.ref nb2), (.ref a)])) rfl rfl (hb hby d2_9)
  refine own_by (st3) ?_
  have O3 : Obj Z h3 a "com/example/fourfold/fourfold/xdr/FragmentMap" sch_fm [(.ref nb2), (.long (0 : Int64)), (.int (0 : Int32)), (.long (0 : Int64))] := O4.set (so_sch_fm hw) W3 0 rfl (Nat.le_of_ble_eq_true rfl)
  have N3 := Fr.snoc X3 N0 ga
  have Z3 : n0 ≤ h3.size := Nat.le_trans Z2 (Keep.of_wr W3).1
  have K3 : Keep h0 h3 [a] := K2.wr W3 (Or.inl (List.mem_of_getElem? (i := 0) rfl))
  show OEnds p e below s _ _ _ (T3.setTop (mkF m 12 #[.val (.ref a)] []))
  have F5 : FA Z h3 nb2 .byte 16 (fun i => .int ((fun _ => (0 : Int32)) i)) := (F2.other W3 (Ne.symm (Nat.ne_of_lt (Nat.lt_of_lt_of_le O0.lt (Nat.le_of_eq g2.symm)))))
  exact own_retV X3 hx hlk Bd.returns (hb hby d2_12) (by rw [e3]; exact ⟨rfl, N3, K3, nb2, sz_nb2, g_nb2, O3, F5⟩) (by decide) (by decide)
theorem d4_0 : decode prog_88_method_2_code 0 = .ok (.aload_n 0, 1) := by decide +kernel
theorem d4_1 : decode prog_88_method_2_code 1 = .ok (.lload_n 1, 1) := by decide +kernel
theorem d4_2 : decode prog_88_method_2_code 2 = .ok (.putfield 13, 3) := by decide +kernel
theorem d4_5 : decode prog_88_method_2_code 5 = .ok (.aload_n 0, 1) := by decide +kernel
theorem d4_6 : decode prog_88_method_2_code 6 = .ok (.iconst 0, 1) := by decide +kernel
theorem d4_7 : decode prog_88_method_2_code 7 = .ok (.putfield 17, 3) := by decide +kernel
theorem d4_10 : decode prog_88_method_2_code 10 = .ok (.aload_n 0, 1) := by decide +kernel
theorem d4_11 : decode prog_88_method_2_code 11 = .ok (.lconst 0, 1) := by decide +kernel
theorem d4_12 : decode prog_88_method_2_code 12 = .ok (.putfield 21, 3) := by decide +kernel
theorem d4_15 : decode prog_88_method_2_code 15 = .ok (.return_, 1) := by decide +kernel
theorem pn_4 : plainName "com/example/fourfold/fourfold/xdr/FragmentMap" = true := by first | (simp [plainName, overriddenIn]; done) | decide +kernel
theorem ef_4 (m : MethodId) (x0 : Addr) (x1 : Int64) : entryFrame m #[(.ref x0), (.long x1)] 3 = mkF m 0 #[.val (.ref x0), .val (.long x1), .second] [] := by first | (simp [entryFrame, mkF, argsToLocals, Value.category]; done) | rfl
def begin_start (sn : Int64) : Int64 := sn
def begin_size  : Int32 := (0 : Int32)
def begin_empty  : Int64 := (0 : Int64)
def Q_begin (Z : State) (a : Addr) (sn : Int64) (eb : Addr) (sv : Int64) (sz : Int32) (em : Int64) (h0 : Heap) (n0 : Nat) (r : Option Value) (h : Heap) (L : List Loc) : Prop := r = none ∧ Fr n0 L ∧ Keep h0 h [a] ∧ Obj Z h a "com/example/fourfold/fourfold/xdr/FragmentMap" sch_fm [(.ref eb), (.long (begin_start sn)), (.int begin_size), (.long begin_empty)]
set_option maxRecDepth 65536 in
set_option maxHeartbeats 40000000 in
theorem rm_begin (l : Launch) (Z : State) (a0 : Array Value) (hw : ∀ d ∈ tables_1, d.before a0 Z = true) (ws : List Jvm.Cond) (a : Addr) (sn : Int64) (eb : Addr) (sv : Int64) (sz : Int32) (em : Int64) (h0 : Heap) (n0 : Nat) (Z0 : n0 ≤ h0.size) (O0 : Obj Z h0 a "com/example/fourfold/fourfold/xdr/FragmentMap" sch_fm [(.ref eb), (.long sv), (.int sz), (.long em)]) (ga : n0 ≤ a) :
    MetFree l (⟨"com/example/fourfold/fourfold/xdr/FragmentMap", "begin", "(J)V"⟩ : MethodName) (head1 (Jvm.Cond.code (⟨"com/example/fourfold/fourfold/xdr/FragmentMap", "begin", "(J)V"⟩ : MethodName) prog_88_method_2_code 3 none :: ws) ({ frames := 0, cells := 0, slots := 0, locals := 0 } : Room)) (fun a_ U => a_ = #[(.ref a), (.long sn)] ∧ Z.Warmed39 U.vm ∧ U.heap = h0) (fun _ _ _ _ _ => True) (fun _ U o U' => ∃ v_ L_, o = .returned v_ ∧ Q_begin Z a sn eb sv sz em h0 n0 v_ U'.heap L_ ∧ FrameEnd U o U' L_ ({ frames := 0, cells := 0, slots := 0, locals := 0 } : Room).cells ({ frames := 0, cells := 0, slots := 0, locals := 0 } : Room).slots) := by
  refine MetFree.of_bodySF (plainFor_of_name pn_4) hisR ?_
  intro p e s m args below meth c s₁ Bd hml0 hP hK
  obtain ⟨rfl, hZ, hh⟩ := hP
  have hx := Bd.exec
  have hby := Bd.bytes
  have hlk : meth.locks = false := Bd.notSynchronized
  have hml : c.maxLocals = 3 := hml0
  have hown : s.vm.findClass "com/example/fourfold/fourfold/xdr/FragmentMap" = some m.cls := findClass_of_methodNamed Bd.named
  have hnm := (name_of_methodNamed Bd.named Bd.method).1
  have X0 : Stand p l e ({ frames := 0, cells := 0, slots := 0, locals := 0 } : Room) s m #[(.ref a), (.long sn)] below meth c s₁ [] 0 0 := Stand.of_body Bd
  have e0 : s₁.heap = h0 := by rw [← hh, Bd.state]; rfl
  have N0 := Fr.nil n0
  have K0 : Keep h0 h0 [a] := Keep.refl _ _
  show OEnds p e below s (Q_begin Z a sn eb sv sz em h0 n0) _ _ _
  refine own_by (fun t k => castTop (ef_4 m a sn) k) ?_
  show OEnds p e below s _ _ _ (s₁.setTop (mkF m 0 #[.val (.ref a), .val (.long sn), .second] []))
  refine own_by (fun _ k => XS.aloadN X0.here hx rfl (hb hby d4_0) rfl rfl k) ?_
  show OEnds p e below s _ _ _ (s₁.setTop (mkF m 1 #[.val (.ref a), .val (.long sn), .second] [(.ref a)]))
  refine own_by (fun _ k => XS.lloadN X0.here hx rfl (hb hby d4_1) rfl k) ?_
  show OEnds p e below s _ _ _ (s₁.setTop (mkF m 2 #[.val (.ref a), .val (.long sn), .second] [(.long sn), (.ref a)]))
  obtain ⟨T1, h1, X1, e1, W1, st1⟩ := putF X0 hx hZ hown (host := "") (Or.inl (hw _ (List.mem_of_getElem? (i := 21) rfl))) Via.refl e0 (O0.fld 1 rfl rfl) O0.exa (Or.inl (hw _ (List.mem_of_getElem? (i := 22) rfl))) (hw _ (List.mem_of_getElem? (i := 5) rfl)) (ty := .long) (by decide) rfl rfl (g := (mkF m 2 #[.val (.ref a), .val (.long sn), .second] [(.long sn), (.ref a)])) rfl rfl (hb hby d4_2)
  refine own_by (st1) ?_
  have O1 : Obj Z h1 a "com/example/fourfold/fourfold/xdr/FragmentMap" sch_fm [(.ref eb), (.long sn), (.int sz), (.long em)] := O0.set (so_sch_fm hw) W1 1 rfl (Nat.le_of_ble_eq_true rfl)
  have N1 := Fr.snoc X1 N0 ga
  have Z1 : n0 ≤ h1.size := Nat.le_trans Z0 (Keep.of_wr W1).1
  have K1 : Keep h0 h1 [a] := K0.wr W1 (Or.inl (List.mem_of_getElem? (i := 0) rfl))
  show OEnds p e below s _ _ _ (T1.setTop (mkF m 5 #[.val (.ref a), .val (.long sn), .second] []))
  refine own_by (fun _ k => XS.aloadN X1.here hx rfl (hb hby d4_5) rfl rfl k) ?_
  show OEnds p e below s _ _ _ (T1.setTop (mkF m 6 #[.val (.ref a), .val (.long sn), .second] [(.ref a)]))
  refine own_by (fun _ k => XS.iconst X1.here hx rfl (hb hby d4_6) k) ?_
  show OEnds p e below s _ _ _ (T1.setTop (mkF m 7 #[.val (.ref a), .val (.long sn), .second] [(.int (0 : Int32)), (.ref a)]))
  obtain ⟨T2, h2, X2, e2, W2, st2⟩ := putF X1 hx hZ hown (host := "") (Or.inl (hw _ (List.mem_of_getElem? (i := 23) rfl))) Via.refl e1 (O1.fld 2 rfl rfl) O1.exa (Or.inl (hw _ (List.mem_of_getElem? (i := 24) rfl))) (hw _ (List.mem_of_getElem? (i := 5) rfl)) (ty := .int) (by decide) rfl rfl (g := (mkF m 7 #[.val (.ref a), .val (.long sn), .second] [(.int (0 : Int32)), (.ref a)])) rfl rfl (hb hby d4_7)
  refine own_by (st2) ?_
  have O2 : Obj Z h2 a "com/example/fourfold/fourfold/xdr/FragmentMap" sch_fm [(.ref eb), (.long sn), (.int (0 : Int32)), (.long em)] := O1.set (so_sch_fm hw) W2 2 rfl (Nat.le_of_ble_eq_true rfl)
  have N2 := Fr.snoc X2 N1 ga
  have Z2 : n0 ≤ h2.size := Nat.le_trans Z1 (Keep.of_wr W2).1
  have K2 : Keep h0 h2 [a] := K1.wr W2 (Or.inl (List.mem_of_getElem? (i := 0) rfl))
  show OEnds p e below s _ _ _ (T2.setTop (mkF m 10 #[.val (.ref a), .val (.long sn), .second] []))
  refine own_by (fun _ k => XS.aloadN X2.here hx rfl (hb hby d4_10) rfl rfl k) ?_
  show OEnds p e below s _ _ _ (T2.setTop (mkF m 11 #[.val (.ref a), .val (.long sn), .second] [(.ref a)]))
  refine own_by (fun _ k => XS.lconst X2.here hx rfl (hb hby d4_11) k) ?_
  show OEnds p e below s _ _ _ (T2.setTop (mkF m 12 #[.val (.ref a), .val (.long sn), .second] [(.long (0 : Int64)), (.ref a)]))
  obtain ⟨T3, h3, X3, e3, W3, st3⟩ := putF X2 hx hZ hown (host := "") (Or.inl (hw _ (List.mem_of_getElem? (i := 25) rfl))) Via.refl e2 (O2.fld 3 rfl rfl) O2.exa (Or.inl (hw _ (List.mem_of_getElem? (i := 26) rfl))) (hw _ (List.mem_of_getElem? (i := 5) rfl)) (ty := .long) (by decide) rfl rfl (g := (mkF m 12 #[.val (.ref a), .val (.long sn), .second] [(.long (0 : Int64)), (.ref a)])) rfl rfl (hb hby d4_12)
  refine own_by (st3) ?_
  have O3 : Obj Z h3 a "com/example/fourfold/fourfold/xdr/FragmentMap" sch_fm [(.ref eb), (.long sn), (.int (0 : Int32)), (.long (0 : Int64))] := O2.set (so_sch_fm hw) W3 3 rfl (Nat.le_of_ble_eq_true rfl)
  have N3 := Fr.snoc X3 N2 ga
  have Z3 : n0 ≤ h3.size := Nat.le_trans Z2 (Keep.of_wr W3).1
  have K3 : Keep h0 h3 [a] := K2.wr W3 (Or.inl (List.mem_of_getElem? (i := 0) rfl))
  show OEnds p e below s _ _ _ (T3.setTop (mkF m 15 #[.val (.ref a), .val (.long sn), .second] []))
  have q_4_1 : (begin_start sn) = sn := (by rw [begin_start] <;> rfl)
  have q_5_2 : begin_size = (0 : Int32) := (by rw [begin_size] <;> rfl)
  have q_6_3 : begin_empty = (0 : Int64) := (by rw [begin_empty] <;> rfl)
  exact own_retV X3 hx hlk Bd.returns (hb hby d4_15) (by rw [e3]; exact ⟨rfl, N3, K3, by rw [q_4_1, q_5_2, q_6_3]; exact O3⟩) (by decide) (by decide)
theorem d10_0 : decode jdk_29_method_69_code 0 = .ok (.iload_n 0, 1) := by decide +kernel
theorem d10_1 : decode jdk_29_method_69_code 1 = .ok (.iload_n 1, 1) := by decide +kernel
theorem d10_2 : decode jdk_29_method_69_code 2 = .ok (.if_icmp .gt 7, 3) := by decide +kernel
theorem d10_5 : decode jdk_29_method_69_code 5 = .ok (.iload_n 0, 1) := by decide +kernel
theorem d10_6 : decode jdk_29_method_69_code 6 = .ok (.goto 4, 3) := by decide +kernel
theorem d10_9 : decode jdk_29_method_69_code 9 = .ok (.iload_n 1, 1) := by decide +kernel
theorem d10_10 : decode jdk_29_method_69_code 10 = .ok (.ireturn, 1) := by decide +kernel
theorem ef_10 (m : MethodId) (q0 : Int32) (q1 : Int32) : entryFrame m #[(.int q0), (.int q1)] 2 = mkF m 0 #[.val (.int q0), .val (.int q1)] [] := by first | (simp [entryFrame, mkF, argsToLocals, Value.category]; done) | rfl
def jmin_10 (v10_s0 : Int32) : Int32 := v10_s0
def jmin (q0 : Int32) (q1 : Int32) : Int32 := if q1 < q0 then (jmin_10 q1) else (jmin_10 q0)
set_option maxRecDepth 65536 in
set_option maxHeartbeats 40000000 in
theorem rm_jmin (l : Launch) (Z : State) (a0 : Array Value) (hw : ∀ d ∈ tables_1, d.before a0 Z = true) (ws : List Jvm.Cond) (q0 : Int32) (q1 : Int32) (h0 : Heap) :
    MetFree l (⟨"java/lang/Math", "min", "(II)I"⟩ : MethodName) (head1 (Jvm.Cond.code (⟨"java/lang/Math", "min", "(II)I"⟩ : MethodName) jdk_29_method_69_code 2 (some .int) :: ws) ({ frames := 0, cells := 0, slots := 0, locals := 0 } : Room)) (fun a U => a = #[(.int q0), (.int q1)] ∧ Z.Warmed39 U.vm ∧ U.heap = h0) (fun _ _ _ _ _ => True) (fun _ U o U' => ∃ v L, o = .returned v ∧ QP (Value.int (jmin q0 q1)) h0 v U'.heap L ∧ FrameEnd U o U' L 0 0) := by
  refine MetFree.of_bodySF (Jvm.Free.JP.mathPlain rfl (by decide +kernel)) hisR ?_
  intro p e s m args below meth c s₁ Bd hml0 hP hK
  obtain ⟨rfl, hZ, hh⟩ := hP
  have hx := Bd.exec
  have hby := Bd.bytes
  have hlk : meth.locks = false := Bd.notSynchronized
  have hml : c.maxLocals = 2 := hml0
  have hown : s.vm.findClass "java/lang/Math" = some m.cls := findClass_of_methodNamed Bd.named
  have X0 : Stand p l e ({ frames := 0, cells := 0, slots := 0, locals := 0 } : Room) s m #[(.int q0), (.int q1)] below meth c s₁ [] 0 0 := Stand.of_body Bd
  have e0 : s₁.heap = h0 := by rw [← hh, Bd.state]; rfl
  have bjmin_10 : ∀ (T : State) (X : Stand p l e ({ frames := 0, cells := 0, slots := 0, locals := 0 } : Room) s m #[(.int q0), (.int q1)] below meth c T [] 0 0) (eT : T.heap = h0) (v10_s0 : Int32), OEnds p e below s (QP (Value.int (jmin_10 v10_s0)) h0) 0 0 (T.setTop (mkF m 10 #[.val (.int q0), .val (.int q1)] [(.int v10_s0)])) := by
    intro T X eT v10_s0
    exact own_retI X hx hlk Bd.returns (hb hby d10_10) ⟨congrArg (fun z => some (Value.int z)) (Eq.symm (by rw [jmin_10] <;> rfl)), rfl, eT⟩ (Nat.le_refl _) (Nat.le_refl _)
  show OEnds p e below s _ _ _ _
  refine own_by (fun t k => castTop (ef_10 m q0 q1) k) ?_
  show OEnds p e below s _ _ _ (s₁.setTop (mkF m 0 #[.val (.int q0), .val (.int q1)] []))
  refine own_by (fun _ k => XS.iloadN X0.here hx rfl (hb hby d10_0) rfl k) ?_
  show OEnds p e below s _ _ _ (s₁.setTop (mkF m 1 #[.val (.int q0), .val (.int q1)] [(.int q0)]))
  refine own_by (fun _ k => XS.iloadN X0.here hx rfl (hb hby d10_1) rfl k) ?_
  show OEnds p e below s _ _ _ (s₁.setTop (mkF m 2 #[.val (.int q0), .val (.int q1)] [(.int q1), (.int q0)]))
  by_cases hc2 : q1 < q0
  · refine own_by (fun _ k => XS.icmpYes X0.here hx rfl (pc0 := 2) (pc' := 9) rfl (hb hby d10_2) rfl (tlt hc2).2.2.1 (by decide) (by decide) k) ?_
    show OEnds p e below s _ _ _ (s₁.setTop (mkF m 9 #[.val (.int q0), .val (.int q1)] []))
    refine own_by (fun _ k => XS.iloadN X0.here hx rfl (hb hby d10_9) rfl k) ?_
    show OEnds p e below s _ _ _ (s₁.setTop (mkF m 10 #[.val (.int q0), .val (.int q1)] [(.int q1)]))
    exact own_eq (congrArg Value.int (by rw [jmin, if_pos hc2] <;> rfl)) (bjmin_10 s₁ X0 e0 q1)
  · refine own_by (fun _ k => XS.icmpNo X0.here hx rfl (hb hby d10_2) rfl (flt hc2).2.2.1 k) ?_
    show OEnds p e below s _ _ _ (s₁.setTop (mkF m 5 #[.val (.int q0), .val (.int q1)] []))
    refine own_by (fun _ k => XS.iloadN X0.here hx rfl (hb hby d10_5) rfl k) ?_
    show OEnds p e below s _ _ _ (s₁.setTop (mkF m 6 #[.val (.int q0), .val (.int q1)] [(.int q0)]))
    refine own_by (fun _ k => XS.goto X0.here hx rfl (pc0 := 6) (pc' := 10) rfl (hb hby d10_6) (by decide) (by decide) k) ?_
    show OEnds p e below s _ _ _ (s₁.setTop (mkF m 10 #[.val (.int q0), .val (.int q1)] [(.int q0)]))
    exact own_eq (congrArg Value.int (by rw [jmin, if_neg hc2] <;> rfl)) (bjmin_10 s₁ X0 e0 q0)
theorem d9_0 : decode jdk_65_method_121_code 0 = .ok (.iload_n 1, 1) := by decide +kernel
theorem d9_1 : decode jdk_65_method_121_code 1 = .ok (.aload_n 0, 1) := by decide +kernel
theorem d9_2 : decode jdk_65_method_121_code 2 = .ok (.arraylength, 1) := by decide +kernel
theorem d9_3 : decode jdk_65_method_121_code 3 = .ok (.if_icmp .ne 11, 3) := by decide +kernel
theorem d9_14 : decode jdk_65_method_121_code 14 = .ok (.iload_n 1, 1) := by decide +kernel
theorem d9_15 : decode jdk_65_method_121_code 15 = .ok (.newarray .byte, 2) := by decide +kernel
theorem d9_17 : decode jdk_65_method_121_code 17 = .ok (.astore_n 2, 1) := by decide +kernel
theorem d9_18 : decode jdk_65_method_121_code 18 = .ok (.aload_n 0, 1) := by decide +kernel
theorem d9_19 : decode jdk_65_method_121_code 19 = .ok (.iconst 0, 1) := by decide +kernel
theorem d9_20 : decode jdk_65_method_121_code 20 = .ok (.aload_n 2, 1) := by decide +kernel
theorem d9_21 : decode jdk_65_method_121_code 21 = .ok (.iconst 0, 1) := by decide +kernel
theorem d9_22 : decode jdk_65_method_121_code 22 = .ok (.aload_n 0, 1) := by decide +kernel
theorem d9_23 : decode jdk_65_method_121_code 23 = .ok (.arraylength, 1) := by decide +kernel
theorem d9_24 : decode jdk_65_method_121_code 24 = .ok (.iload_n 1, 1) := by decide +kernel
theorem d9_25 : decode jdk_65_method_121_code 25 = .ok (.invokestatic 304, 3) := by decide +kernel
theorem d9_28 : decode jdk_65_method_121_code 28 = .ok (.invokestatic 150, 3) := by decide +kernel
theorem d9_31 : decode jdk_65_method_121_code 31 = .ok (.aload_n 2, 1) := by decide +kernel
theorem d9_32 : decode jdk_65_method_121_code 32 = .ok (.areturn, 1) := by decide +kernel
theorem pn_9 : plainName "java/util/Arrays" = true := by first | (simp [plainName, overriddenIn]; done) | decide +kernel
theorem ef_9 (m : MethodId) (x0 : Addr) (x1 : Int32) : entryFrame m #[(.ref x0), (.int x1)] 3 = mkF m 0 #[.val (.ref x0), .val (.int x1), .unset] [] := by first | (simp [entryFrame, mkF, argsToLocals, Value.category]; done) | rfl
def Q_cp (Z : State) (f : Nat → Int32) (h0 : Heap) (n0 : Nat) (r : Option Value) (h : Heap) (L : List Loc) : Prop := ∃ b : Addr, r = some (.ref b) ∧ Fr n0 L ∧ Keep h0 h [] ∧ h0.size ≤ b ∧ n0 ≤ b ∧ FA Z h b .byte 32 (fun i => .int ((fun i => if i < 16 then f i else (fun _ => (0 : Int32)) i) i))
set_option maxRecDepth 65536 in
set_option maxHeartbeats 40000000 in
theorem rm_cp (l : Launch) (Z : State) (a0 : Array Value) (hw : ∀ d ∈ tables_1, d.before a0 Z = true) (ws : List Jvm.Cond) (b : Addr) (f : Nat → Int32) (h0 : Heap) (n0 : Nat) (Z0 : n0 ≤ h0.size) (F0 : FA Z h0 b .byte 16 (fun i => .int (f i))) (hfit : Fit f 16) :
    MetFree l (⟨"java/util/Arrays", "copyOf", "([BI)[B"⟩ : MethodName) (head1 (Jvm.Cond.code (⟨"java/util/Arrays", "copyOf", "([BI)[B"⟩ : MethodName) jdk_65_method_121_code 3 (some (.array .byte)) :: ws) ({ frames := 1, cells := 1, slots := 32, locals := 18 } : Room)) (fun a_ U => a_ = #[(.ref b), (.int (32 : Int32))] ∧ Z.Warmed39 U.vm ∧ U.heap = h0) (fun _ _ _ _ _ => True) (fun _ U o U' => ∃ v_ L_, o = .returned v_ ∧ Q_cp Z f h0 n0 v_ U'.heap L_ ∧ FrameEnd U o U' L_ ({ frames := 1, cells := 1, slots := 32, locals := 18 } : Room).cells ({ frames := 1, cells := 1, slots := 32, locals := 18 } : Room).slots) := by
  refine MetFree.of_bodySF (plainFor_of_name pn_9) hisR ?_
  intro p e s m args below meth c s₁ Bd hml0 hP hK
  obtain ⟨rfl, hZ, hh⟩ := hP
  have hx := Bd.exec
  have hby := Bd.bytes
  have hlk : meth.locks = false := Bd.notSynchronized
  have hml : c.maxLocals = 3 := hml0
  have hown : s.vm.findClass "java/util/Arrays" = some m.cls := findClass_of_methodNamed Bd.named
  have hnm := (name_of_methodNamed Bd.named Bd.method).1
  have X0 : Stand p l e ({ frames := 1, cells := 1, slots := 32, locals := 18 } : Room) s m #[(.ref b), (.int (32 : Int32))] below meth c s₁ [] 0 0 := Stand.of_body Bd
  have e0 : s₁.heap = h0 := by rw [← hh, Bd.state]; rfl
  have N0 := Fr.nil n0
  have K0 : Keep h0 h0 [] := Keep.refl _ _
  show OEnds p e below s (Q_cp Z f h0 n0) _ _ _
  refine own_by (fun t k => castTop (ef_9 m b (32 : Int32)) k) ?_
  show OEnds p e below s _ _ _ (s₁.setTop (mkF m 0 #[.val (.ref b), .val (.int (32 : Int32)), .unset] []))
  refine own_by (fun _ k => XS.iloadN X0.here hx rfl (hb hby d9_0) rfl k) ?_
  show OEnds p e below s _ _ _ (s₁.setTop (mkF m 1 #[.val (.ref b), .val (.int (32 : Int32)), .unset] [(.int (32 : Int32))]))
  refine own_by (fun _ k => XS.aloadN X0.here hx rfl (hb hby d9_1) rfl rfl k) ?_
  show OEnds p e below s _ _ _ (s₁.setTop (mkF m 2 #[.val (.ref b), .val (.int (32 : Int32)), .unset] [(.ref b), (.int (32 : Int32))]))
  refine own_by (own_len X0 hx hZ e0 F0 (z := (16 : Int32)) (by decide) (g := (mkF m 2 #[.val (.ref b), .val (.int (32 : Int32)), .unset] [(.ref b), (.int (32 : Int32))])) rfl rfl (hb hby d9_2)) ?_
  show OEnds p e below s _ _ _ (s₁.setTop (mkF m 3 #[.val (.ref b), .val (.int (32 : Int32)), .unset] [(.int (16 : Int32)), (.int (32 : Int32))]))
  refine own_by (fun _ k => XS.icmpYes X0.here hx rfl (pc0 := 3) (pc' := 14) rfl (hb hby d9_3) rfl (feq (by decide : ¬ ((32 : Int32) = (16 : Int32)))).2 (by decide) (by decide) k) ?_
  show OEnds p e below s _ _ _ (s₁.setTop (mkF m 14 #[.val (.ref b), .val (.int (32 : Int32)), .unset] []))
  refine own_by (fun _ k => XS.iloadN X0.here hx rfl (hb hby d9_14) rfl k) ?_
  show OEnds p e below s _ _ _ (s₁.setTop (mkF m 15 #[.val (.ref b), .val (.int (32 : Int32)), .unset] [(.int (32 : Int32))]))
  obtain ⟨T1, h1, k1, X1, e1, E1, A1, st1⟩ := newP X0 hx hZ (hw _ (List.mem_of_getElem? (i := 13) rfl)) e0 (g := (mkF m 15 #[.val (.ref b), .val (.int (32 : Int32)), .unset] [(.int (32 : Int32))])) rfl (hb hby d9_15) rfl (by decide) (cap := 32) (by decide) (by decide) (by decide) (by decide)
  obtain ⟨nb1, g1⟩ : ∃ z, z = h0.size := ⟨_, rfl⟩
  rw [← g1] at A1 st1
  refine own_by (st1) ?_
  have g_nb1 : n0 ≤ nb1 := Nat.le_trans Z0 (Nat.le_of_eq g1.symm)
  have sz_nb1 : h0.size ≤ nb1 := Nat.le_trans K0.1 (Nat.le_of_eq g1.symm)
  have K1 : Keep h0 h1 [] := K0.ext E1
  have Z1 : n0 ≤ h1.size := Nat.le_trans Z0 E1.1
  have F1 : FA Z h1 nb1 .byte 32 (fun i => .int ((fun _ => (0 : Int32)) i)) := FA.new A1 (by decide) (by decide) rfl
  show OEnds p e below s _ _ _ (T1.setTop (mkF m 17 #[.val (.ref b), .val (.int (32 : Int32)), .unset] [(.ref nb1)]))
  refine own_by (fun _ k => XS.astoreN X1.here hx rfl (hb hby d9_17) rfl rfl (l' := #[.val (.ref b), .val (.int (32 : Int32)), .val (.ref nb1)]) rfl k) ?_
  show OEnds p e below s _ _ _ (T1.setTop (mkF m 18 #[.val (.ref b), .val (.int (32 : Int32)), .val (.ref nb1)] []))
  refine own_by (fun _ k => XS.aloadN X1.here hx rfl (hb hby d9_18) rfl rfl k) ?_
  show OEnds p e below s _ _ _ (T1.setTop (mkF m 19 #[.val (.ref b), .val (.int (32 : Int32)), .val (.ref nb1)] [(.ref b)]))
  refine own_by (fun _ k => XS.iconst X1.here hx rfl (hb hby d9_19) k) ?_
  show OEnds p e below s _ _ _ (T1.setTop (mkF m 20 #[.val (.ref b), .val (.int (32 : Int32)), .val (.ref nb1)] [(.int (0 : Int32)), (.ref b)]))
  refine own_by (fun _ k => XS.aloadN X1.here hx rfl (hb hby d9_20) rfl rfl k) ?_
  show OEnds p e below s _ _ _ (T1.setTop (mkF m 21 #[.val (.ref b), .val (.int (32 : Int32)), .val (.ref nb1)] [(.ref nb1), (.int (0 : Int32)), (.ref b)]))
  refine own_by (fun _ k => XS.iconst X1.here hx rfl (hb hby d9_21) k) ?_
  show OEnds p e below s _ _ _ (T1.setTop (mkF m 22 #[.val (.ref b), .val (.int (32 : Int32)), .val (.ref nb1)] [(.int (0 : Int32)), (.ref nb1), (.int (0 : Int32)), (.ref b)]))
  refine own_by (fun _ k => XS.aloadN X1.here hx rfl (hb hby d9_22) rfl rfl k) ?_
  show OEnds p e below s _ _ _ (T1.setTop (mkF m 23 #[.val (.ref b), .val (.int (32 : Int32)), .val (.ref nb1)] [(.ref b), (.int (0 : Int32)), (.ref nb1), (.int (0 : Int32)), (.ref b)]))
  have F2 : FA Z h1 b .byte 16 (fun i => .int (f i)) := (F0.ext E1)
  refine own_by (own_len X1 hx hZ e1 F2 (z := (16 : Int32)) (by decide) (g := (mkF m 23 #[.val (.ref b), .val (.int (32 : Int32)), .val (.ref nb1)] [(.ref b), (.int (0 : Int32)), (.ref nb1), (.int (0 : Int32)), (.ref b)])) rfl rfl (hb hby d9_23)) ?_
  show OEnds p e below s _ _ _ (T1.setTop (mkF m 24 #[.val (.ref b), .val (.int (32 : Int32)), .val (.ref nb1)] [(.int (16 : Int32)), (.int (0 : Int32)), (.ref nb1), (.int (0 : Int32)), (.ref b)]))
  refine own_by (fun _ k => XS.iloadN X1.here hx rfl (hb hby d9_24) rfl k) ?_
  show OEnds p e below s _ _ _ (T1.setTop (mkF m 25 #[.val (.ref b), .val (.int (32 : Int32)), .val (.ref nb1)] [(.int (32 : Int32)), (.int (16 : Int32)), (.int (0 : Int32)), (.ref nb1), (.int (0 : Int32)), (.ref b)]))
  obtain ⟨T3, X3, e3, st3⟩ := own_callP X1 hx hZ (y := (⟨"java/lang/Math", "min", "(II)I"⟩ : MethodName)) hown (hw _ (List.mem_of_getElem? (i := 56) rfl)) (hw _ (List.mem_of_getElem? (i := 57) rfl)) (hw _ (List.mem_of_getElem? (i := 58) rfl)) (hw _ (List.mem_of_getElem? (i := 59) rfl)) (by decide) (rm_jmin l Z a0 hw [] (16 : Int32) (32 : Int32) h1) e1 (g := (mkF m 25 #[.val (.ref b), .val (.int (32 : Int32)), .val (.ref nb1)] [(.int (32 : Int32)), (.int (16 : Int32)), (.int (0 : Int32)), (.ref nb1), (.int (0 : Int32)), (.ref b)])) rfl (by rw [hml]; rfl) (argsL := [(.int (16 : Int32)), (.int (32 : Int32))]) (rest := [(.int (0 : Int32)), (.ref nb1), (.int (0 : Int32)), (.ref b)]) (lenOf pd_pIIrI rfl) rfl (W := 4) (by show 2 * 0 + _ ≤ _; exact Nat.le_of_eq rfl) (hb hby d9_25) (by decide) (by decide) (by decide) (by decide)
  refine own_by (st3) ?_
  show OEnds p e below s _ _ _ (T3.setTop (mkF m 28 #[.val (.ref b), .val (.int (32 : Int32)), .val (.ref nb1)] [(.int (jmin (16 : Int32) (32 : Int32))), (.int (0 : Int32)), (.ref nb1), (.int (0 : Int32)), (.ref b)]))
  obtain ⟨T4, h4, L4, X4, e4, N4, Kq4, F4, st4⟩ := own_arraycopy X3 hx hZ hown (hw _ (List.mem_of_getElem? (i := 60) rfl)) (hw _ (List.mem_of_getElem? (i := 63) rfl)) (hw _ (List.mem_of_getElem? (i := 61) rfl)) (hw _ (List.mem_of_getElem? (i := 62) rfl)) e3 F2 F1 rfl hfit (fun _ _ => (by decide : fits .byte (.int (0 : Int32)) = true)) 16 (by decide) (by decide) (by decide) N0 g_nb1 (g := (mkF m 28 #[.val (.ref b), .val (.int (32 : Int32)), .val (.ref nb1)] [(.int (jmin (16 : Int32) (32 : Int32))), (.int (0 : Int32)), (.ref nb1), (.int (0 : Int32)), (.ref b)])) rfl (by rw [hml]; rfl) rfl (hb hby d9_28) (by decide) (W := 0) (by show 2 * 0 + _ ≤ _; exact Nat.le_of_eq rfl) (by decide)
  refine own_by (st4) ?_
  have K4 : Keep h0 h4 [] := K1.trans Kq4 (allS (Or.inr sz_nb1) all0)
  have Z4 : n0 ≤ h4.size := Nat.le_trans Z1 Kq4.1
  have F4c : FA Z h4 nb1 .byte 32 (fun i => .int ((fun i => if i < 16 then f i else (fun _ => (0 : Int32)) i) i)) := F4.congr fun i _ => by by_cases q : i < 16 <;> simp [q]
  show OEnds p e below s _ _ _ (T4.setTop (mkF m 31 #[.val (.ref b), .val (.int (32 : Int32)), .val (.ref nb1)] []))
  refine own_by (fun _ k => XS.aloadN X4.here hx rfl (hb hby d9_31) rfl rfl k) ?_
  show OEnds p e below s _ _ _ (T4.setTop (mkF m 32 #[.val (.ref b), .val (.int (32 : Int32)), .val (.ref nb1)] [(.ref nb1)]))
  exact own_retA X4 hx hlk rfl Bd.returns rfl (hb hby d9_32) (by rw [e4]; exact ⟨_, rfl, N4, K4, sz_nb1, g_nb1, F4c⟩) (by decide) (by decide)
theorem d7_0 : decode prog_88_method_6_code 0 = .ok (.aload_n 0, 1) := by decide +kernel
theorem d7_1 : decode prog_88_method_6_code 1 = .ok (.getfield 17, 3) := by decide +kernel
theorem d7_4 : decode prog_88_method_6_code 4 = .ok (.aload_n 0, 1) := by decide +kernel
theorem d7_5 : decode prog_88_method_6_code 5 = .ok (.getfield 7, 3) := by decide +kernel
theorem d7_8 : decode prog_88_method_6_code 8 = .ok (.arraylength, 1) := by decide +kernel
theorem d7_9 : decode prog_88_method_6_code 9 = .ok (.if_icmp .ne 20, 3) := by decide +kernel
theorem d7_29 : decode prog_88_method_6_code 29 = .ok (.aload_n 0, 1) := by decide +kernel
theorem d7_30 : decode prog_88_method_6_code 30 = .ok (.getfield 7, 3) := by decide +kernel
theorem d7_33 : decode prog_88_method_6_code 33 = .ok (.aload_n 0, 1) := by decide +kernel
theorem d7_34 : decode prog_88_method_6_code 34 = .ok (.dup, 1) := by decide +kernel
theorem d7_35 : decode prog_88_method_6_code 35 = .ok (.getfield 17, 3) := by decide +kernel
theorem d7_38 : decode prog_88_method_6_code 38 = .ok (.dup_x1, 1) := by decide +kernel
theorem d7_39 : decode prog_88_method_6_code 39 = .ok (.iconst 1, 1) := by decide +kernel
theorem d7_40 : decode prog_88_method_6_code 40 = .ok (.iadd, 1) := by decide +kernel
theorem d7_41 : decode prog_88_method_6_code 41 = .ok (.putfield 17, 3) := by decide +kernel
theorem d7_44 : decode prog_88_method_6_code 44 = .ok (.iload_n 1, 1) := by decide +kernel
theorem d7_45 : decode prog_88_method_6_code 45 = .ok (.bastore, 1) := by decide +kernel
theorem d7_46 : decode prog_88_method_6_code 46 = .ok (.return_, 1) := by decide +kernel
theorem pn_7 : plainName "com/example/fourfold/fourfold/xdr/FragmentMap" = true := by first | (simp [plainName, overriddenIn]; done) | decide +kernel
theorem ef_7 (m : MethodId) (x0 : Addr) (x1 : Int32) : entryFrame m #[(.ref x0), (.int x1)] 2 = mkF m 0 #[.val (.ref x0), .val (.int x1)] [] := by first | (simp [entryFrame, mkF, argsToLocals, Value.category]; done) | rfl
def Q_append (Z : State) (a : Addr) (bt : Int32) (b : Addr) (sv : Int64) (sz : Int32) (em : Int64) (f : Nat → Int32) (k nc : Nat) (h0 : Heap) (n0 : Nat) (r : Option Value) (h : Heap) (L : List Loc) : Prop := r = none ∧ Fr n0 L ∧ Keep h0 h [a, b] ∧ Obj Z h a "com/example/fourfold/fourfold/xdr/FragmentMap" sch_fm [(.ref b), (.long sv), (.int (sz + (1 : Int32))), (.long em)] ∧ FA Z h b .byte nc (fun i => .int (updI f k (nar .byte bt) i))
set_option maxRecDepth 65536 in
set_option maxHeartbeats 40000000 in
theorem rm_append (l : Launch) (Z : State) (a0 : Array Value) (hw : ∀ d ∈ tables_1, d.before a0 Z = true) (ws : List Jvm.Cond) (a : Addr) (bt : Int32) (b : Addr) (sv : Int64) (sz : Int32) (em : Int64) (f : Nat → Int32) (k : Nat) (nc : Nat) (h0 : Heap) (n0 : Nat) (Z0 : n0 ≤ h0.size) (O0 : Obj Z h0 a "com/example/fourfold/fourfold/xdr/FragmentMap" sch_fm [(.ref b), (.long sv), (.int sz), (.long em)]) (F0 : FA Z h0 b .byte nc (fun i => .int (f i))) (ga : n0 ≤ a) (gb : n0 ≤ b) (hk : sz.toInt = (k : Int)) (hlt : k < nc) (hnc : nc ≤ 1000) :
    MetFree l (⟨"com/example/fourfold/fourfold/xdr/FragmentMap", "append", "(B)V"⟩ : MethodName) (head1 (Jvm.Cond.code (⟨"com/example/fourfold/fourfold/xdr/FragmentMap", "append", "(B)V"⟩ : MethodName) prog_88_method_6_code 2 none :: ws) ({ frames := 0, cells := 0, slots := 0, locals := 0 } : Room)) (fun a_ U => a_ = #[(.ref a), (.int bt)] ∧ Z.Warmed39 U.vm ∧ U.heap = h0) (fun _ _ _ _ _ => True) (fun _ U o U' => ∃ v_ L_, o = .returned v_ ∧ Q_append Z a bt b sv sz em f k nc h0 n0 v_ U'.heap L_ ∧ FrameEnd U o U' L_ ({ frames := 0, cells := 0, slots := 0, locals := 0 } : Room).cells ({ frames := 0, cells := 0, slots := 0, locals := 0 } : Room).slots) := by
  refine MetFree.of_bodySF (plainFor_of_name pn_7) hisR ?_
  intro p e s m args below meth c s₁ Bd hml0 hP hK
  obtain ⟨rfl, hZ, hh⟩ := hP
  have hx := Bd.exec
  have hby := Bd.bytes
  have hlk : meth.locks = false := Bd.notSynchronized
  have hml : c.maxLocals = 2 := hml0
  have hown : s.vm.findClass "com/example/fourfold/fourfold/xdr/FragmentMap" = some m.cls := findClass_of_methodNamed Bd.named
  have hnm := (name_of_methodNamed Bd.named Bd.method).1
  have X0 : Stand p l e ({ frames := 0, cells := 0, slots := 0, locals := 0 } : Room) s m #[(.ref a), (.int bt)] below meth c s₁ [] 0 0 := Stand.of_body Bd
  have e0 : s₁.heap = h0 := by rw [← hh, Bd.state]; rfl
  have N0 := Fr.nil n0
  have K0 : Keep h0 h0 [a, b] := Keep.refl _ _
  show OEnds p e below s (Q_append Z a bt b sv sz em f k nc h0 n0) _ _ _
  refine own_by (fun t k => castTop (ef_7 m a bt) k) ?_
  show OEnds p e below s _ _ _ (s₁.setTop (mkF m 0 #[.val (.ref a), .val (.int bt)] []))
  refine own_by (fun _ k => XS.aloadN X0.here hx rfl (hb hby d7_0) rfl rfl k) ?_
  show OEnds p e below s _ _ _ (s₁.setTop (mkF m 1 #[.val (.ref a), .val (.int bt)] [(.ref a)]))
  obtain ⟨T1, X1, e1, st1⟩ := getF X0 hx hZ hown (host := "") (Or.inl (hw _ (List.mem_of_getElem? (i := 23) rfl))) Via.refl e0 (O0.fld 2 rfl rfl) (g := (mkF m 1 #[.val (.ref a), .val (.int bt)] [(.ref a)])) rfl rfl (hb hby d7_1)
  refine own_by (st1) ?_
  show OEnds p e below s _ _ _ (T1.setTop (mkF m 4 #[.val (.ref a), .val (.int bt)] [(.int sz)]))
  refine own_by (fun _ k => XS.aloadN X1.here hx rfl (hb hby d7_4) rfl rfl k) ?_
  show OEnds p e below s _ _ _ (T1.setTop (mkF m 5 #[.val (.ref a), .val (.int bt)] [(.ref a), (.int sz)]))
  obtain ⟨T2, X2, e2, st2⟩ := getF X1 hx hZ hown (host := "") (Or.inl (hw _ (List.mem_of_getElem? (i := 14) rfl))) Via.refl e1 (O0.fld 0 rfl rfl) (g := (mkF m 5 #[.val (.ref a), .val (.int bt)] [(.ref a), (.int sz)])) rfl rfl (hb hby d7_5)
  refine own_by (st2) ?_
  show OEnds p e below s _ _ _ (T2.setTop (mkF m 8 #[.val (.ref a), .val (.int bt)] [(.ref b), (.int sz)]))
  refine own_by (own_len X2 hx hZ e2 F0 (z := (Int32.ofNat nc)) rfl (g := (mkF m 8 #[.val (.ref a), .val (.int bt)] [(.ref b), (.int sz)])) rfl rfl (hb hby d7_8)) ?_
  show OEnds p e below s _ _ _ (T2.setTop (mkF m 9 #[.val (.ref a), .val (.int bt)] [(.int (Int32.ofNat nc)), (.int sz)]))
  refine own_by (fun _ k => XS.icmpYes X2.here hx rfl (pc0 := 9) (pc' := 29) rfl (hb hby d7_9) rfl (feq (ne_len hk hlt hnc)).2 (by decide) (by decide) k) ?_
  show OEnds p e below s _ _ _ (T2.setTop (mkF m 29 #[.val (.ref a), .val (.int bt)] []))
  refine own_by (fun _ k => XS.aloadN X2.here hx rfl (hb hby d7_29) rfl rfl k) ?_
  show OEnds p e below s _ _ _ (T2.setTop (mkF m 30 #[.val (.ref a), .val (.int bt)] [(.ref a)]))
  obtain ⟨T3, X3, e3, st3⟩ := getF X2 hx hZ hown (host := "") (Or.inl (hw _ (List.mem_of_getElem? (i := 14) rfl))) Via.refl e2 (O0.fld 0 rfl rfl) (g := (mkF m 30 #[.val (.ref a), .val (.int bt)] [(.ref a)])) rfl rfl (hb hby d7_30)
  refine own_by (st3) ?_
  show OEnds p e below s _ _ _ (T3.setTop (mkF m 33 #[.val (.ref a), .val (.int bt)] [(.ref b)]))
  refine own_by (fun _ k => XS.aloadN X3.here hx rfl (hb hby d7_33) rfl rfl k) ?_
  show OEnds p e below s _ _ _ (T3.setTop (mkF m 34 #[.val (.ref a), .val (.int bt)] [(.ref a), (.ref b)]))
  refine own_by (fun _ k => XS.dup X3.here hx rfl (hb hby d7_34) rfl rfl k) ?_
  show OEnds p e below s _ _ _ (T3.setTop (mkF m 35 #[.val (.ref a), .val (.int bt)] [(.ref a), (.ref a), (.ref b)]))
  obtain ⟨T4, X4, e4, st4⟩ := getF X3 hx hZ hown (host := "") (Or.inl (hw _ (List.mem_of_getElem? (i := 23) rfl))) Via.refl e3 (O0.fld 2 rfl rfl) (g := (mkF m 35 #[.val (.ref a), .val (.int bt)] [(.ref a), (.ref a), (.ref b)])) rfl rfl (hb hby d7_35)
  refine own_by (st4) ?_
  show OEnds p e below s _ _ _ (T4.setTop (mkF m 38 #[.val (.ref a), .val (.int bt)] [(.int sz), (.ref a), (.ref b)]))
  refine own_by (fun _ k => XS.dupX1 X4.here hx rfl (hb hby d7_38) rfl rfl rfl k) ?_
  show OEnds p e below s _ _ _ (T4.setTop (mkF m 39 #[.val (.ref a), .val (.int bt)] [(.int sz), (.ref a), (.int sz), (.ref b)]))
  refine own_by (fun _ k => XS.iconst X4.here hx rfl (hb hby d7_39) k) ?_
  show OEnds p e below s _ _ _ (T4.setTop (mkF m 40 #[.val (.ref a), .val (.int bt)] [(.int (1 : Int32)), (.int sz), (.ref a), (.int sz), (.ref b)]))
  refine own_by (fun _ k => XS.iadd X4.here hx rfl (hb hby d7_40) rfl k) ?_
  show OEnds p e below s _ _ _ (T4.setTop (mkF m 41 #[.val (.ref a), .val (.int bt)] [(.int (sz + (1 : Int32))), (.ref a), (.int sz), (.ref b)]))
  obtain ⟨T5, h5, X5, e5, W5, st5⟩ := putF X4 hx hZ hown (host := "") (Or.inl (hw _ (List.mem_of_getElem? (i := 23) rfl))) Via.refl e4 (O0.fld 2 rfl rfl) O0.exa (Or.inl (hw _ (List.mem_of_getElem? (i := 24) rfl))) (hw _ (List.mem_of_getElem? (i := 5) rfl)) (ty := .int) (by decide) rfl rfl (g := (mkF m 41 #[.val (.ref a), .val (.int bt)] [(.int (sz + (1 : Int32))), (.ref a), (.int sz), (.ref b)])) rfl rfl (hb hby d7_41)
  refine own_by (st5) ?_
  have O5 : Obj Z h5 a "com/example/fourfold/fourfold/xdr/FragmentMap" sch_fm [(.ref b), (.long sv), (.int (sz + (1 : Int32))), (.long em)] := O0.set (so_sch_fm hw) W5 2 rfl (Nat.le_of_ble_eq_true rfl)
  have N5 := Fr.snoc X5 N0 ga
  have Z5 : n0 ≤ h5.size := Nat.le_trans Z0 (Keep.of_wr W5).1
  have K5 : Keep h0 h5 [a, b] := K0.wr W5 (Or.inl (List.mem_of_getElem? (i := 0) rfl))
  show OEnds p e below s _ _ _ (T5.setTop (mkF m 44 #[.val (.ref a), .val (.int bt)] [(.int sz), (.ref b)]))
  refine own_by (fun _ k => XS.iloadN X5.here hx rfl (hb hby d7_44) rfl k) ?_
  show OEnds p e below s _ _ _ (T5.setTop (mkF m 45 #[.val (.ref a), .val (.int bt)] [(.int bt), (.int sz), (.ref b)]))
  have F7 : FA Z h5 b .byte nc (fun i => .int (f i)) := (F0.other W5 (Ne.symm (O0.ne_fa (hw _ (List.mem_of_getElem? (i := 5) rfl)) F0)))
  obtain ⟨T6, h6, X6, e6, W6, st6⟩ := own_bastore X5 hx hZ e5 F7 k hk hlt (g := (mkF m 45 #[.val (.ref a), .val (.int bt)] [(.int bt), (.int sz), (.ref b)])) rfl rfl (hb hby d7_45)
  refine own_by (st6) ?_
  have F6 : FA Z h6 b .byte nc (fun i => .int ((updI f k (nar .byte bt)) i)) := F7.setI W6
  have N6 := Fr.snoc X6 N5 gb
  have Z6 : n0 ≤ h6.size := Nat.le_trans Z5 (Keep.of_wr W6).1
  have K6 : Keep h0 h6 [a, b] := K5.wr W6 (Or.inl (List.mem_of_getElem? (i := 1) rfl))
  show OEnds p e below s _ _ _ (T6.setTop (mkF m 46 #[.val (.ref a), .val (.int bt)] []))
  have O8 : Obj Z h6 a "com/example/fourfold/fourfold/xdr/FragmentMap" sch_fm [(.ref b), (.long sv), (.int (sz + (1 : Int32))), (.long em)] := (O5.other W6 (O5.ne_fa (hw _ (List.mem_of_getElem? (i := 5) rfl)) F7))
  exact own_retV X6 hx hlk Bd.returns (hb hby d7_46) (by rw [e6]; exact ⟨rfl, N6, K6, O8, F6⟩) (by decide) (by decide)
theorem d7_12 : decode prog_88_method_6_code 12 = .ok (.aload_n 0, 1) := by decide +kernel
theorem d7_13 : decode prog_88_method_6_code 13 = .ok (.aload_n 0, 1) := by decide +kernel
theorem d7_14 : decode prog_88_method_6_code 14 = .ok (.getfield 7, 3) := by decide +kernel
theorem d7_17 : decode prog_88_method_6_code 17 = .ok (.iconst 2, 1) := by decide +kernel
theorem d7_18 : decode prog_88_method_6_code 18 = .ok (.aload_n 0, 1) := by decide +kernel
theorem d7_19 : decode prog_88_method_6_code 19 = .ok (.getfield 17, 3) := by decide +kernel
theorem d7_22 : decode prog_88_method_6_code 22 = .ok (.imul, 1) := by decide +kernel
theorem d7_23 : decode prog_88_method_6_code 23 = .ok (.invokestatic 40, 3) := by decide +kernel
theorem d7_26 : decode prog_88_method_6_code 26 = .ok (.putfield 7, 3) := by decide +kernel
def Q_appendG (Z : State) (a : Addr) (bt : Int32) (sv em : Int64) (f : Nat → Int32) (h0 : Heap) (n0 : Nat) (r : Option Value) (h : Heap) (L : List Loc) : Prop := r = none ∧ Fr n0 L ∧ Keep h0 h [a] ∧ ∃ b : Addr, h0.size ≤ b ∧ n0 ≤ b ∧ Obj Z h a "com/example/fourfold/fourfold/xdr/FragmentMap" sch_fm [(.ref b), (.long sv), (.int (17 : Int32)), (.long em)] ∧ FA Z h b .byte 32 (fun i => .int ((updI (fun i => if i < 16 then f i else (0 : Int32)) 16 (nar .byte bt)) i))
set_option maxRecDepth 65536 in
set_option maxHeartbeats 40000000 in
theorem rm_appendG (l : Launch) (Z : State) (a0 : Array Value) (hw : ∀ d ∈ tables_1, d.before a0 Z = true) (ws : List Jvm.Cond) (a : Addr) (bt : Int32) (b : Addr) (sv : Int64) (em : Int64) (f : Nat → Int32) (h0 : Heap) (n0 : Nat) (Z0 : n0 ≤ h0.size) (O0 : Obj Z h0 a "com/example/fourfold/fourfold/xdr/FragmentMap" sch_fm [(.ref b), (.long sv), (.int (16 : Int32)), (.long em)]) (F0 : FA Z h0 b .byte 16 (fun i => .int (f i))) (ga : n0 ≤ a) (hfit : Fit f 16) :
    MetFree l (⟨"com/example/fourfold/fourfold/xdr/FragmentMap", "append", "(B)V"⟩ : MethodName) (head1 (Jvm.Cond.code (⟨"com/example/fourfold/fourfold/xdr/FragmentMap", "append", "(B)V"⟩ : MethodName) prog_88_method_6_code 2 none :: ws) ({ frames := 2, cells := 1, slots := 32, locals := 33 } : Room)) (fun a_ U => a_ = #[(.ref a), (.int bt)] ∧ Z.Warmed39 U.vm ∧ U.heap = h0) (fun _ _ _ _ _ => True) (fun _ U o U' => ∃ v_ L_, o = .returned v_ ∧ Q_appendG Z a bt sv em f h0 n0 v_ U'.heap L_ ∧ FrameEnd U o U' L_ ({ frames := 2, cells := 1, slots := 32, locals := 33 } : Room).cells ({ frames := 2, cells := 1, slots := 32, locals := 33 } : Room).slots) := by
  refine MetFree.of_bodySF (plainFor_of_name pn_7) hisR ?_
  intro p e s m args below meth c s₁ Bd hml0 hP hK
  obtain ⟨rfl, hZ, hh⟩ := hP
  have hx := Bd.exec
  have hby := Bd.bytes
  have hlk : meth.locks = false := Bd.notSynchronized
  have hml : c.maxLocals = 2 := hml0
  have hown : s.vm.findClass "com/example/fourfold/fourfold/xdr/FragmentMap" = some m.cls := findClass_of_methodNamed Bd.named
  have hnm := (name_of_methodNamed Bd.named Bd.method).1
  have X0 : Stand p l e ({ frames := 2, cells := 1, slots := 32, locals := 33 } : Room) s m #[(.ref a), (.int bt)] below meth c s₁ [] 0 0 := Stand.of_body Bd
  have e0 : s₁.heap = h0 := by rw [← hh, Bd.state]; rfl
  have N0 := Fr.nil n0
  have K0 : Keep h0 h0 [a] := Keep.refl _ _
  show OEnds p e below s (Q_appendG Z a bt sv em f h0 n0) _ _ _
  refine own_by (fun t k => castTop (ef_7 m a bt) k) ?_
  show OEnds p e below s _ _ _ (s₁.setTop (mkF m 0 #[.val (.ref a), .val (.int bt)] []))
  refine own_by (fun _ k => XS.aloadN X0.here hx rfl (hb hby d7_0) rfl rfl k) ?_
  show OEnds p e below s _ _ _ (s₁.setTop (mkF m 1 #[.val (.ref a), .val (.int bt)] [(.ref a)]))
  obtain ⟨T1, X1, e1, st1⟩ := getF X0 hx hZ hown (host := "") (Or.inl (hw _ (List.mem_of_getElem? (i := 23) rfl))) Via.refl e0 (O0.fld 2 rfl rfl) (g := (mkF m 1 #[.val (.ref a), .val (.int bt)] [(.ref a)])) rfl rfl (hb hby d7_1)
  refine own_by (st1) ?_
  show OEnds p e below s _ _ _ (T1.setTop (mkF m 4 #[.val (.ref a), .val (.int bt)] [(.int (16 : Int32))]))
  refine own_by (fun _ k => XS.aloadN X1.here hx rfl (hb hby d7_4) rfl rfl k) ?_
  show OEnds p e below s _ _ _ (T1.setTop (mkF m 5 #[.val (.ref a), .val (.int bt)] [(.ref a), (.int (16 : Int32))]))
  obtain ⟨T2, X2, e2, st2⟩ := getF X1 hx hZ hown (host := "") (Or.inl (hw _ (List.mem_of_getElem? (i := 14) rfl))) Via.refl e1 (O0.fld 0 rfl rfl) (g := (mkF m 5 #[.val (.ref a), .val (.int bt)] [(.ref a), (.int (16 : Int32))])) rfl rfl (hb hby d7_5)
  refine own_by (st2) ?_
  show OEnds p e below s _ _ _ (T2.setTop (mkF m 8 #[.val (.ref a), .val (.int bt)] [(.ref b), (.int (16 : Int32))]))
  refine own_by (own_len X2 hx hZ e2 F0 (z := (16 : Int32)) (by decide) (g := (mkF m 8 #[.val (.ref a), .val (.int bt)] [(.ref b), (.int (16 : Int32))])) rfl rfl (hb hby d7_8)) ?_
  show OEnds p e below s _ _ _ (T2.setTop (mkF m 9 #[.val (.ref a), .val (.int bt)] [(.int (16 : Int32)), (.int (16 : Int32))]))
  refine own_by (fun _ k => XS.icmpNo X2.here hx rfl (hb hby d7_9) rfl (teq (by decide : (16 : Int32) = (16 : Int32))).2 k) ?_
  show OEnds p e below s _ _ _ (T2.setTop (mkF m 12 #[.val (.ref a), .val (.int bt)] []))
  refine own_by (fun _ k => XS.aloadN X2.here hx rfl (hb hby d7_12) rfl rfl k) ?_
  show OEnds p e below s _ _ _ (T2.setTop (mkF m 13 #[.val (.ref a), .val (.int bt)] [(.ref a)]))
  refine own_by (fun _ k => XS.aloadN X2.here hx rfl (hb hby d7_13) rfl rfl k) ?_
  show OEnds p e below s _ _ _ (T2.setTop (mkF m 14 #[.val (.ref a), .val (.int bt)] [(.ref a), (.ref a)]))
  obtain ⟨T3, X3, e3, st3⟩ := getF X2 hx hZ hown (host := "") (Or.inl (hw _ (List.mem_of_getElem? (i := 14) rfl))) Via.refl e2 (O0.fld 0 rfl rfl) (g := (mkF m 14 #[.val (.ref a), .val (.int bt)] [(.ref a), (.ref a)])) rfl rfl (hb hby d7_14)
  refine own_by (st3) ?_
  show OEnds p e below s _ _ _ (T3.setTop (mkF m 17 #[.val (.ref a), .val (.int bt)] [(.ref b), (.ref a)]))
  refine own_by (fun _ k => XS.iconst X3.here hx rfl (hb hby d7_17) k) ?_
  show OEnds p e below s _ _ _ (T3.setTop (mkF m 18 #[.val (.ref a), .val (.int bt)] [(.int (2 : Int32)), (.ref b), (.ref a)]))
  refine own_by (fun _ k => XS.aloadN X3.here hx rfl (hb hby d7_18) rfl rfl k) ?_
  show OEnds p e below s _ _ _ (T3.setTop (mkF m 19 #[.val (.ref a), .val (.int bt)] [(.ref a), (.int (2 : Int32)), (.ref b), (.ref a)]))
  obtain ⟨T4, X4, e4, st4⟩ := getF X3 hx hZ hown (host := "") (Or.inl (hw _ (List.mem_of_getElem? (i := 23) rfl))) Via.refl e3 (O0.fld 2 rfl rfl) (g := (mkF m 19 #[.val (.ref a), .val (.int bt)] [(.ref a), (.int (2 : Int32)), (.ref b), (.ref a)])) rfl rfl (hb hby d7_19)
  refine own_by (st4) ?_
  show OEnds p e below s _ _ _ (T4.setTop (mkF m 22 #[.val (.ref a), .val (.int bt)] [(.int (16 : Int32)), (.int (2 : Int32)), (.ref b), (.ref a)]))
  refine own_by (fun _ k => XS.imul X4.here hx rfl (hb hby d7_22) rfl k) ?_
  show OEnds p e below s _ _ _ (T4.setTop (mkF m 23 #[.val (.ref a), .val (.int bt)] [(.int (32 : Int32)), (.ref b), (.ref a)]))
  obtain ⟨v5, T5, L5, h5, X5, e5, hQ5, st5⟩ := own_callS X4 hx hZ (y := (⟨"java/util/Arrays", "copyOf", "([BI)[B"⟩ : MethodName)) hown (hw _ (List.mem_of_getElem? (i := 52) rfl)) (hw _ (List.mem_of_getElem? (i := 53) rfl)) (hw _ (List.mem_of_getElem? (i := 54) rfl)) (hw _ (List.mem_of_getElem? (i := 55) rfl)) (by decide) (rm_cp l Z a0 hw [] b f h0 n0 Z0 F0 hfit) e4 (g := (mkF m 23 #[.val (.ref a), .val (.int bt)] [(.int (32 : Int32)), (.ref b), (.ref a)])) rfl (by rw [hml]; rfl) (argsL := [(.ref b), (.int (32 : Int32))]) (rest := [(.ref a)]) (lenOf pd_paBIraB rfl) rfl (W := 1) (by show 2 * 0 + _ ≤ _; exact Nat.le_of_eq rfl) (hb hby d7_23) (by decide) (by decide) (by decide) (by decide)
  obtain ⟨nc5, rfl, Nq5, Kq5, sq5, gq5, F5⟩ := hQ5
  have N5 := Fr.app N0 Nq5
  have K5 : Keep h0 h5 [a] := K0.trans Kq5 all0
  have Z5 : n0 ≤ h5.size := Nat.le_trans Z0 Kq5.1
  refine own_tr st5 ?_
  show OEnds p e below s _ _ _ (T5.setTop (mkF m 26 #[.val (.ref a), .val (.int bt)] [(.ref nc5), (.ref a)]))
  have O7 : Obj Z h5 a "com/example/fourfold/fourfold/xdr/FragmentMap" sch_fm [(.ref b), (.long sv), (.int (16 : Int32)), (.long em)] := (O0.keep Kq5 nin0)
  have F8 : FA Z h5 b .byte 16 (fun i => .int (f i)) := (F0.keep Kq5 nin0)
  obtain ⟨T6, h6, X6, e6, W6, st6⟩ := putF X5 hx hZ hown (host := "") (Or.inl (hw _ (List.mem_of_getElem? (i := 14) rfl))) Via.refl e5 (O7.fld 0 rfl rfl) O7.exa (Or.inl (hw _ (List.mem_of_getElem? (i := 15) rfl))) (hw _ (List.mem_of_getElem? (i := 5) rfl)) (ty := (.array .byte)) (by decide) rfl rfl (g := (mkF m 26 #[.val (.ref a), .val (.int bt)] [(.ref nc5), (.ref a)])) rfl rfl (hb hby d7_26)
  refine own_by (st6) ?_
  have O6 : Obj Z h6 a "com/example/fourfold/fourfold/xdr/FragmentMap" sch_fm [(.ref nc5), (.long sv), (.int (16 : Int32)), (.long em)] := O7.set (so_sch_fm hw) W6 0 rfl (Nat.le_of_ble_eq_true rfl)
  have N6 := Fr.snoc X6 N5 ga
  have Z6 : n0 ≤ h6.size := Nat.le_trans Z5 (Keep.of_wr W6).1
  have K6 : Keep h0 h6 [a] := K5.wr W6 (Or.inl (List.mem_of_getElem? (i := 0) rfl))
  show OEnds p e below s _ _ _ (T6.setTop (mkF m 29 #[.val (.ref a), .val (.int bt)] []))
  refine own_by (fun _ k => XS.aloadN X6.here hx rfl (hb hby d7_29) rfl rfl k) ?_
  show OEnds p e below s _ _ _ (T6.setTop (mkF m 30 #[.val (.ref a), .val (.int bt)] [(.ref a)]))
  obtain ⟨T9, X9, e9, st9⟩ := getF X6 hx hZ hown (host := "") (Or.inl (hw _ (List.mem_of_getElem? (i := 14) rfl))) Via.refl e6 (O6.fld 0 rfl rfl) (g := (mkF m 30 #[.val (.ref a), .val (.int bt)] [(.ref a)])) rfl rfl (hb hby d7_30)
  refine own_by (st9) ?_
  show OEnds p e below s _ _ _ (T9.setTop (mkF m 33 #[.val (.ref a), .val (.int bt)] [(.ref nc5)]))
  refine own_by (fun _ k => XS.aloadN X9.here hx rfl (hb hby d7_33) rfl rfl k) ?_
  show OEnds p e below s _ _ _ (T9.setTop (mkF m 34 #[.val (.ref a), .val (.int bt)] [(.ref a), (.ref nc5)]))
  refine own_by (fun _ k => XS.dup X9.here hx rfl (hb hby d7_34) rfl rfl k) ?_
  show OEnds p e below s _ _ _ (T9.setTop (mkF m 35 #[.val (.ref a), .val (.int bt)] [(.ref a), (.ref a), (.ref nc5)]))
  obtain ⟨T10, X10, e10, st10⟩ := getF X9 hx hZ hown (host := "") (Or.inl (hw _ (List.mem_of_getElem? (i := 23) rfl))) Via.refl e9 (O6.fld 2 rfl rfl) (g := (mkF m 35 #[.val (.ref a), .val (.int bt)] [(.ref a), (.ref a), (.ref nc5)])) rfl rfl (hb hby d7_35)
  refine own_by (st10) ?_
  show OEnds p e below s _ _ _ (T10.setTop (mkF m 38 #[.val (.ref a), .val (.int bt)] [(.int (16 : Int32)), (.ref a), (.ref nc5)]))
  refine own_by (fun _ k => XS.dupX1 X10.here hx rfl (hb hby d7_38) rfl rfl rfl k) ?_
  show OEnds p e below s _ _ _ (T10.setTop (mkF m 39 #[.val (.ref a), .val (.int bt)] [(.int (16 : Int32)), (.ref a), (.int (16 : Int32)), (.ref nc5)]))
  refine own_by (fun _ k => XS.iconst X10.here hx rfl (hb hby d7_39) k) ?_
  show OEnds p e below s _ _ _ (T10.setTop (mkF m 40 #[.val (.ref a), .val (.int bt)] [(.int (1 : Int32)), (.int (16 : Int32)), (.ref a), (.int (16 : Int32)), (.ref nc5)]))
  refine own_by (fun _ k => XS.iadd X10.here hx rfl (hb hby d7_40) rfl k) ?_
  show OEnds p e below s _ _ _ (T10.setTop (mkF m 41 #[.val (.ref a), .val (.int bt)] [(.int (17 : Int32)), (.ref a), (.int (16 : Int32)), (.ref nc5)]))
  have F12 : FA Z h6 b .byte 16 (fun i => .int (f i)) := (F8.other W6 (Ne.symm (O7.ne_fa (hw _ (List.mem_of_getElem? (i := 5) rfl)) F8)))
  have F13 : FA Z h6 nc5 .byte 32 (fun i => .int ((fun i => if i < 16 then f i else (0 : Int32)) i)) := (F5.other W6 (Ne.symm (Nat.ne_of_lt (Nat.lt_of_lt_of_le O0.lt sq5))))
  obtain ⟨T11, h11, X11, e11, W11, st11⟩ := putF X10 hx hZ hown (host := "") (Or.inl (hw _ (List.mem_of_getElem? (i := 23) rfl))) Via.refl e10 (O6.fld 2 rfl rfl) O6.exa (Or.inl (hw _ (List.mem_of_getElem? (i := 24) rfl))) (hw _ (List.mem_of_getElem? (i := 5) rfl)) (ty := .int) (by decide) rfl rfl (g := (mkF m 41 #[.val (.ref a), .val (.int bt)] [(.int (17 : Int32)), (.ref a), (.int (16 : Int32)), (.ref nc5)])) rfl rfl (hb hby d7_41)
  refine own_by (st11) ?_
  have O11 : Obj Z h11 a "com/example/fourfold/fourfold/xdr/FragmentMap" sch_fm [(.ref nc5), (.long sv), (.int (17 : Int32)), (.long em)] := O6.set (so_sch_fm hw) W11 2 rfl (Nat.le_of_ble_eq_true rfl)
  have N11 := Fr.snoc X11 N6 ga
  have Z11 : n0 ≤ h11.size := Nat.le_trans Z6 (Keep.of_wr W11).1
  have K11 : Keep h0 h11 [a] := K6.wr W11 (Or.inl (List.mem_of_getElem? (i := 0) rfl))
  show OEnds p e below s _ _ _ (T11.setTop (mkF m 44 #[.val (.ref a), .val (.int bt)] [(.int (16 : Int32)), (.ref nc5)]))
  refine own_by (fun _ k => XS.iloadN X11.here hx rfl (hb hby d7_44) rfl k) ?_
  show OEnds p e below s _ _ _ (T11.setTop (mkF m 45 #[.val (.ref a), .val (.int bt)] [(.int bt), (.int (16 : Int32)), (.ref nc5)]))
  have F15 : FA Z h11 b .byte 16 (fun i => .int (f i)) := (F12.other W11 (Ne.symm (O6.ne_fa (hw _ (List.mem_of_getElem? (i := 5) rfl)) F12)))
  have F16 : FA Z h11 nc5 .byte 32 (fun i => .int ((fun i => if i < 16 then f i else (0 : Int32)) i)) := (F13.other W11 (Ne.symm (Nat.ne_of_lt (Nat.lt_of_lt_of_le O0.lt sq5))))
  obtain ⟨T14, h14, X14, e14, W14, st14⟩ := own_bastore X11 hx hZ e11 F16 16 (by decide) (by decide) (g := (mkF m 45 #[.val (.ref a), .val (.int bt)] [(.int bt), (.int (16 : Int32)), (.ref nc5)])) rfl rfl (hb hby d7_45)
  refine own_by (st14) ?_
  have F14 : FA Z h14 nc5 .byte 32 (fun i => .int ((updI (fun i => if i < 16 then f i else (0 : Int32)) 16 (nar .byte bt)) i)) := F16.setI W14
  obtain ⟨f14, ef14⟩ : ∃ fz_ : Nat → Int32, fz_ = (updI (fun i => if i < 16 then f i else (0 : Int32)) 16 (nar .byte bt)) := ⟨_, rfl⟩
  rw [← ef14] at F14
  have N14 := Fr.snoc X14 N11 gq5
  have Z14 : n0 ≤ h14.size := Nat.le_trans Z11 (Keep.of_wr W14).1
  have K14 : Keep h0 h14 [a] := K11.wr W14 (Or.inr (Nat.le_trans K0.1 sq5))
  show OEnds p e below s _ _ _ (T14.setTop (mkF m 46 #[.val (.ref a), .val (.int bt)] []))
  have O17 : Obj Z h14 a "com/example/fourfold/fourfold/xdr/FragmentMap" sch_fm [(.ref nc5), (.long sv), (.int (17 : Int32)), (.long em)] := (O11.other W14 (Nat.ne_of_lt (Nat.lt_of_lt_of_le O0.lt sq5)))
  exact own_retV X14 hx hlk Bd.returns (hb hby d7_46) (by rw [e14]; subst ef14; exact ⟨rfl, N14, K14, nc5, (Nat.le_trans K0.1 sq5), gq5, O17, F14⟩) (by decide) (by decide)
theorem d6_0 : decode prog_88_method_5_code 0 = .ok (.lload_n 1, 1) := by decide +kernel
theorem d6_1 : decode prog_88_method_5_code 1 = .ok (.lstore_n 3, 1) := by decide +kernel
theorem d6_2 : decode prog_88_method_5_code 2 = .ok (.lload_n 3, 1) := by decide +kernel
theorem d6_3 : decode prog_88_method_5_code 3 = .ok (.ldc2_w 34, 3) := by decide +kernel
theorem d6_6 : decode prog_88_method_5_code 6 = .ok (.lcmp, 1) := by decide +kernel
theorem d6_7 : decode prog_88_method_5_code 7 = .ok (.ifCond .lt 22, 3) := by decide +kernel
theorem d6_10 : decode prog_88_method_5_code 10 = .ok (.aload_n 0, 1) := by decide +kernel
theorem d6_11 : decode prog_88_method_5_code 11 = .ok (.lload_n 3, 1) := by decide +kernel
theorem d6_12 : decode prog_88_method_5_code 12 = .ok (.ldc2_w 34, 3) := by decide +kernel
theorem d6_15 : decode prog_88_method_5_code 15 = .ok (.lor, 1) := by decide +kernel
theorem d6_16 : decode prog_88_method_5_code 16 = .ok (.l2i, 1) := by decide +kernel
theorem d6_17 : decode prog_88_method_5_code 17 = .ok (.i2b, 1) := by decide +kernel
theorem d6_18 : decode prog_88_method_5_code 18 = .ok (.invokevirtual 36, 3) := by decide +kernel
theorem d6_21 : decode prog_88_method_5_code 21 = .ok (.lload_n 3, 1) := by decide +kernel
theorem d6_22 : decode prog_88_method_5_code 22 = .ok (.bipush 7, 2) := by decide +kernel
theorem d6_24 : decode prog_88_method_5_code 24 = .ok (.lushr, 1) := by decide +kernel
theorem d6_25 : decode prog_88_method_5_code 25 = .ok (.lstore_n 3, 1) := by decide +kernel
theorem d6_26 : decode prog_88_method_5_code 26 = .ok (.goto (-24), 3) := by decide +kernel
theorem d6_29 : decode prog_88_method_5_code 29 = .ok (.aload_n 0, 1) := by decide +kernel
theorem d6_30 : decode prog_88_method_5_code 30 = .ok (.lload_n 3, 1) := by decide +kernel
theorem d6_31 : decode prog_88_method_5_code 31 = .ok (.l2i, 1) := by decide +kernel
theorem d6_32 : decode prog_88_method_5_code 32 = .ok (.i2b, 1) := by decide +kernel
theorem d6_33 : decode prog_88_method_5_code 33 = .ok (.invokevirtual 36, 3) := by decide +kernel
theorem d6_36 : decode prog_88_method_5_code 36 = .ok (.return_, 1) := by decide +kernel
theorem pn_6 : plainName "com/example/fourfold/fourfold/xdr/FragmentMap" = true := by first | (simp [plainName, overriddenIn]; done) | decide +kernel
theorem ef_6 (m : MethodId) (x0 : Addr) (x1 : Int64) : entryFrame m #[(.ref x0), (.long x1)] 5 = mkF m 0 #[.val (.ref x0), .val (.long x1), .second, .unset, .unset] [] := by first | (simp [entryFrame, mkF, argsToLocals, Value.category]; done) | rfl
def Q_put (Z : State) (a b : Addr) (sv em : Int64) (f : Nat → Int32) (k v jj : Nat) (h0 : Heap) (n0 : Nat) (r : Option Value) (h : Heap) (L : List Loc) : Prop := r = none ∧ Fr n0 L ∧ Keep h0 h [a, b] ∧ ∃ (b' : Addr) (nc' : Nat) (f' : Nat → Int32) (bs : List Int32) (sz' : Int32), (b' = b ∨ h0.size ≤ b') ∧ n0 ≤ b' ∧ (nc' = 16 ∨ nc' = 32) ∧ k + bs.length ≤ nc' ∧ Enc v bs ∧ bs.length ≤ jj + 1 ∧ PS f k bs f' nc' ∧ sz'.toInt = ((k + bs.length : Nat) : Int) ∧ Obj Z h a "com/example/fourfold/fourfold/xdr/FragmentMap" sch_fm [(.ref b'), (.long sv), (.int sz'), (.long em)] ∧ FA Z h b' .byte nc' (fun i => .int (f' i))
set_option maxRecDepth 65536 in
set_option maxHeartbeats 40000000 in
theorem rm_putN (l : Launch) (Z : State) (a0 : Array Value) (hw : ∀ d ∈ tables_1, d.before a0 Z = true) (ws : List Jvm.Cond) (a : Addr) (vv : Int64) (b : Addr) (sv : Int64) (sz : Int32) (em : Int64) (f : Nat → Int32) (k : Nat) (v : Nat) (jj : Nat) (nc : Nat) (h0 : Heap) (n0 : Nat) (Z0 : n0 ≤ h0.size) (O0 : Obj Z h0 a "com/example/fourfold/fourfold/xdr/FragmentMap" sch_fm [(.ref b), (.long sv), (.int sz), (.long em)]) (F0 : FA Z h0 b .byte nc (fun i => .int (f i))) (ga : n0 ≤ a) (gb : n0 ≤ b) (hk : sz.toInt = (k : Int)) (hkn : k ≤ nc) (hnc : nc = 16 ∨ nc = 32) (hfit : Fit f nc) (hroom : k + jj + 1 ≤ nc) (hv : vv.toInt = (v : Int)) (hv5 : v < 128 ^ (jj + 1)) :
    MetFree l (⟨"com/example/fourfold/fourfold/xdr/FragmentMap", "put", "(J)V"⟩ : MethodName) (head1 (Jvm.Cond.code (⟨"com/example/fourfold/fourfold/xdr/FragmentMap", "put", "(J)V"⟩ : MethodName) prog_88_method_5_code 5 none :: ws) ({ frames := 1, cells := 0, slots := 0, locals := 13 } : Room)) (fun a_ U => a_ = #[(.ref a), (.long vv)] ∧ Z.Warmed39 U.vm ∧ U.heap = h0) (fun _ _ _ _ _ => True) (fun _ U o U' => ∃ v_ L_, o = .returned v_ ∧ Q_put Z a b sv em f k v jj h0 n0 v_ U'.heap L_ ∧ FrameEnd U o U' L_ ({ frames := 1, cells := 0, slots := 0, locals := 13 } : Room).cells ({ frames := 1, cells := 0, slots := 0, locals := 13 } : Room).slots) := by
  refine MetFree.of_bodySF (plainFor_of_name pn_6) hisR ?_
  intro p e s m args below meth c s₁ Bd hml0 hP hK
  obtain ⟨rfl, hZ, hh⟩ := hP
  have hx := Bd.exec
  have hby := Bd.bytes
  have hlk : meth.locks = false := Bd.notSynchronized
  have hml : c.maxLocals = 5 := hml0
  have hown : s.vm.findClass "com/example/fourfold/fourfold/xdr/FragmentMap" = some m.cls := findClass_of_methodNamed Bd.named
  have hnm := (name_of_methodNamed Bd.named Bd.method).1
  have X0 : Stand p l e ({ frames := 1, cells := 0, slots := 0, locals := 13 } : Room) s m #[(.ref a), (.long vv)] below meth c s₁ [] 0 0 := Stand.of_body Bd
  have e0 : s₁.heap = h0 := by rw [← hh, Bd.state]; rfl
  have N0 := Fr.nil n0
  have K0 : Keep h0 h0 [a, b] := Keep.refl _ _
  show OEnds p e below s (Q_put Z a b sv em f k v jj h0 n0) _ _ _
  refine own_by (fun t k => castTop (ef_6 m a vv) k) ?_
  show OEnds p e below s _ _ _ (s₁.setTop (mkF m 0 #[.val (.ref a), .val (.long vv), .second, .unset, .unset] []))
  refine own_by (fun _ k => XS.lloadN X0.here hx rfl (hb hby d6_0) rfl k) ?_
  show OEnds p e below s _ _ _ (s₁.setTop (mkF m 1 #[.val (.ref a), .val (.long vv), .second, .unset, .unset] [(.long vv)]))
  refine own_by (fun _ k => XS.lstoreN X0.here hx rfl (hb hby d6_1) rfl (l' := #[.val (.ref a), .val (.long vv), .second, .val (.long vv), .second]) rfl k) ?_
  show OEnds p e below s _ _ _ (s₁.setTop (mkF m 2 #[.val (.ref a), .val (.long vv), .second, .val (.long vv), .second] []))
  have finN : ∀ (T : State) (lo : List Loc) (cv : Int64) (cb : Addr) (cn : Nat) (cz : Int32) (cf : Nat → Int32) (pre : List Int32) (u : Nat) (h_finN : Heap) (Zz_finN : n0 ≤ h_finN.size) (X_finN : Stand p l e ({ frames := 1, cells := 0, slots := 0, locals := 13 } : Room) s m #[(.ref a), (.long vv)] below meth c T lo 0 0) (e_finN : T.heap = h_finN) (N_finN : Fr n0 lo) (Kp_finN : Keep h0 h_finN [a, b]) (Ob_finN_a : Obj Z h_finN a "com/example/fourfold/fourfold/xdr/FragmentMap" sch_fm [(.ref cb), (.long sv), (.int cz), (.long em)]) (Fa_finN_cb : FA Z h_finN cb .byte cn (fun i => .int (cf i))) (hcb : cb = b ∨ h0.size ≤ cb) (gcb : n0 ≤ cb) (hcn : cn = 16 ∨ cn = 32) (hcz : cz.toInt = ((k + pre.length : Nat) : Int)) (hcf : PS f k pre cf cn) (hcv : cv.toInt = (u : Int)) (hen : ∀ bs, Enc u bs → Enc v (pre ++ bs)) (hu : u < 128) (hpl : pre.length + 1 ≤ jj + 1) (hrm : k + pre.length + 1 ≤ cn), OEnds p e below s (Q_put Z a b sv em f k v jj h0 n0) 0 0 (T.setTop (mkF m 29 #[.val (.ref a), .val (.long vv), .second, .val (.long cv), .second] [])) := by
    intro T lo cv cb cn cz cf pre u h_finN Zz_finN X_finN e_finN N_finN Kp_finN Ob_finN_a Fa_finN_cb hcb gcb hcn hcz hcf hcv hen hu hpl hrm
    show OEnds p e below s _ _ _ (T.setTop (mkF m 29 #[.val (.ref a), .val (.long vv), .second, .val (.long cv), .second] []))
    show OEnds p e below s _ _ _ (T.setTop (mkF m 29 #[.val (.ref a), .val (.long vv), .second, .val (.long cv), .second] []))
    refine own_by (fun _ k => XS.aloadN X_finN.here hx rfl (hb hby d6_29) rfl rfl k) ?_
    show OEnds p e below s _ _ _ (T.setTop (mkF m 30 #[.val (.ref a), .val (.long vv), .second, .val (.long cv), .second] [(.ref a)]))
    refine own_by (fun _ k => XS.lloadN X_finN.here hx rfl (hb hby d6_30) rfl k) ?_
    show OEnds p e below s _ _ _ (T.setTop (mkF m 31 #[.val (.ref a), .val (.long vv), .second, .val (.long cv), .second] [(.long cv), (.ref a)]))
    refine own_by (fun _ k => XS.l2i X_finN.here hx rfl (hb hby d6_31) rfl k) ?_
    show OEnds p e below s _ _ _ (T.setTop (mkF m 32 #[.val (.ref a), .val (.long vv), .second, .val (.long cv), .second] [(.int (cv.toInt32)), (.ref a)]))
    refine own_by (fun _ k => XS.i2b X_finN.here hx rfl (hb hby d6_32) rfl k) ?_
    show OEnds p e below s _ _ _ (T.setTop (mkF m 33 #[.val (.ref a), .val (.long vv), .second, .val (.long cv), .second] [(.int ((cv.toInt32).toInt8.toInt32)), (.ref a)]))
    obtain ⟨v1, T1, L1, h1, X1, e1, hQ1, st1⟩ := own_callX X_finN hx hZ (y := (⟨"com/example/fourfold/fourfold/xdr/FragmentMap", "append", "(B)V"⟩ : MethodName)) hown (hw _ (List.mem_of_getElem? (i := 38) rfl)) (hw _ (List.mem_of_getElem? (i := 39) rfl)) (hw _ (List.mem_of_getElem? (i := 40) rfl)) (hw _ (List.mem_of_getElem? (i := 41) rfl)) (hw _ (List.mem_of_getElem? (i := 6) rfl)) (hw _ (List.mem_of_getElem? (i := 5) rfl)) (by decide) Ob_finN_a.exa (rm_append l Z a0 hw [] a ((cv.toInt32).toInt8.toInt32) cb sv cz em cf (k + pre.length) cn h_finN n0 Zz_finN Ob_finN_a Fa_finN_cb ga gcb hcz (by omega) (by omega)) e_finN (g := (mkF m 33 #[.val (.ref a), .val (.long vv), .second, .val (.long cv), .second] [(.int ((cv.toInt32).toInt8.toInt32)), (.ref a)])) rfl (by rw [hml]; rfl) (argsL := [(.int ((cv.toInt32).toInt8.toInt32))]) (rest := []) (lenOf pd_pBrV rfl) rfl (W := 0) (by show 2 * 0 + _ ≤ _; exact Nat.le_of_eq rfl) (hb hby d6_33) (by decide) (by decide) (by decide) (by decide)
    obtain ⟨rfl, Nq1, Kq1, O1, F1⟩ := hQ1
    have N1 := Fr.app N_finN Nq1
    have K1 : Keep h0 h1 [a, b] := Kp_finN.trans Kq1 (allS (Or.inl (List.mem_of_getElem? (i := 0) rfl)) (allS (own_or hcb) all0))
    have Z1 : n0 ≤ h1.size := Nat.le_trans Zz_finN Kq1.1
    refine own_tr st1 ?_
    show OEnds p e below s _ _ _ (T1.setTop (mkF m 36 #[.val (.ref a), .val (.long vv), .second, .val (.long cv), .second] []))
    exact own_retV X1 hx hlk Bd.returns (hb hby d6_36) (by rw [e1]; exact ⟨rfl, N1, K1, _, _, _, _, _, hcb, gcb, hcn, (by rw [len_snoc]; omega), hen _ (enc_last hcv hu), (by rw [len_snoc]; omega), (ps_snoc hcf), (put_szC hcz (by omega)), O1, F1⟩) (by decide) (by decide)
  have loopN : ∀ (j : Nat) (T : State) (lo : List Loc) (cv : Int64) (cb : Addr) (cn : Nat) (cz : Int32) (cf : Nat → Int32) (pre : List Int32) (u : Nat) (h_loopN : Heap) (Zz_loopN : n0 ≤ h_loopN.size) (X_loopN : Stand p l e ({ frames := 1, cells := 0, slots := 0, locals := 13 } : Room) s m #[(.ref a), (.long vv)] below meth c T lo 0 0) (e_loopN : T.heap = h_loopN) (N_loopN : Fr n0 lo) (Kp_loopN : Keep h0 h_loopN [a, b]) (Ob_loopN_a : Obj Z h_loopN a "com/example/fourfold/fourfold/xdr/FragmentMap" sch_fm [(.ref cb), (.long sv), (.int cz), (.long em)]) (Fa_loopN_cb : FA Z h_loopN cb .byte cn (fun i => .int (cf i))) (hcb : cb = b ∨ h0.size ≤ cb) (gcb : n0 ≤ cb) (hcn : cn = 16 ∨ cn = 32) (hcz : cz.toInt = ((k + pre.length : Nat) : Int)) (hcf : PS f k pre cf cn) (hcv : cv.toInt = (u : Int)) (hen : ∀ bs, Enc u bs → Enc v (pre ++ bs)) (hj : u < 128 ^ (j + 1)) (hpl : pre.length + j + 1 ≤ jj + 1) (hrm : k + pre.length + j + 1 ≤ cn), OEnds p e below s (Q_put Z a b sv em f k v jj h0 n0) 0 0 (T.setTop (mkF m 2 #[.val (.ref a), .val (.long vv), .second, .val (.long cv), .second] [])) := by
    intro j
    induction j with
    | zero =>
      intro T lo cv cb cn cz cf pre u h_loopN Zz_loopN X_loopN e_loopN N_loopN Kp_loopN Ob_loopN_a Fa_loopN_cb hcb gcb hcn hcz hcf hcv hen hj hpl hrm
      show OEnds p e below s _ _ _ (T.setTop (mkF m 2 #[.val (.ref a), .val (.long vv), .second, .val (.long cv), .second] []))
      refine own_by (fun _ k => XS.lloadN X_loopN.here hx rfl (hb hby d6_2) rfl k) ?_
      show OEnds p e below s _ _ _ (T.setTop (mkF m 3 #[.val (.ref a), .val (.long vv), .second, .val (.long cv), .second] [(.long cv)]))
      refine own_by (X_loopN.ldc2Long hx hown (mvT hZ (hw _ (List.mem_of_getElem? (i := 37) rfl))) (g := (mkF m 3 #[.val (.ref a), .val (.long vv), .second, .val (.long cv), .second] [(.long cv)])) rfl (hb hby d6_3)) ?_
      show OEnds p e below s _ _ _ (T.setTop (mkF m 6 #[.val (.ref a), .val (.long vv), .second, .val (.long cv), .second] [(.long (128 : Int64)), (.long cv)]))
      refine own_by (fun _ k => XS.lcmp X_loopN.here hx rfl (hb hby d6_6) rfl k) ?_
      show OEnds p e below s _ _ _ (T.setTop (mkF m 7 #[.val (.ref a), .val (.long vv), .second, .val (.long cv), .second] [(.int (lcmpW cv (128 : Int64)))]))
      refine own_by (fun _ k => XS.ifYes X_loopN.here hx rfl (pc0 := 7) (pc' := 29) rfl (hb hby d6_7) rfl ((if0 _ _).trans (tlt ((lw_lt _ _).mpr (lt128 hcv (by omega)))).1) (by decide) (by decide) k) ?_
      show OEnds p e below s _ _ _ (T.setTop (mkF m 29 #[.val (.ref a), .val (.long vv), .second, .val (.long cv), .second] []))
      exact finN T _ cv cb cn cz cf pre u h_loopN Zz_loopN X_loopN e_loopN N_loopN Kp_loopN Ob_loopN_a Fa_loopN_cb hcb gcb hcn hcz hcf hcv hen (by omega) (by omega) (by omega)
    | succ j ih_N =>
      intro T lo cv cb cn cz cf pre u h_loopN Zz_loopN X_loopN e_loopN N_loopN Kp_loopN Ob_loopN_a Fa_loopN_cb hcb gcb hcn hcz hcf hcv hen hj hpl hrm
      show OEnds p e below s _ _ _ (T.setTop (mkF m 2 #[.val (.ref a), .val (.long vv), .second, .val (.long cv), .second] []))
      refine own_by (fun _ k => XS.lloadN X_loopN.here hx rfl (hb hby d6_2) rfl k) ?_
      show OEnds p e below s _ _ _ (T.setTop (mkF m 3 #[.val (.ref a), .val (.long vv), .second, .val (.long cv), .second] [(.long cv)]))
      refine own_by (X_loopN.ldc2Long hx hown (mvT hZ (hw _ (List.mem_of_getElem? (i := 37) rfl))) (g := (mkF m 3 #[.val (.ref a), .val (.long vv), .second, .val (.long cv), .second] [(.long cv)])) rfl (hb hby d6_3)) ?_
      show OEnds p e below s _ _ _ (T.setTop (mkF m 6 #[.val (.ref a), .val (.long vv), .second, .val (.long cv), .second] [(.long (128 : Int64)), (.long cv)]))
      refine own_by (fun _ k => XS.lcmp X_loopN.here hx rfl (hb hby d6_6) rfl k) ?_
      show OEnds p e below s _ _ _ (T.setTop (mkF m 7 #[.val (.ref a), .val (.long vv), .second, .val (.long cv), .second] [(.int (lcmpW cv (128 : Int64)))]))
      by_cases hc7_2 : cv < (128 : Int64)
      · refine own_by (fun _ k => XS.ifYes X_loopN.here hx rfl (pc0 := 7) (pc' := 29) rfl (hb hby d6_7) rfl ((if0 _ _).trans (tlt ((lw_lt _ _).mpr hc7_2)).1) (by decide) (by decide) k) ?_
        show OEnds p e below s _ _ _ (T.setTop (mkF m 29 #[.val (.ref a), .val (.long vv), .second, .val (.long cv), .second] []))
        exact finN T _ cv cb cn cz cf pre u h_loopN Zz_loopN X_loopN e_loopN N_loopN Kp_loopN Ob_loopN_a Fa_loopN_cb hcb gcb hcn hcz hcf hcv hen (lt128' hcv hc7_2) (by omega) (by omega)
      · refine own_by (fun _ k => XS.ifNo X_loopN.here hx rfl (hb hby d6_7) rfl ((if0 _ _).trans (flt (fun q => hc7_2 ((lw_lt _ _).mp q))).1) k) ?_
        show OEnds p e below s _ _ _ (T.setTop (mkF m 10 #[.val (.ref a), .val (.long vv), .second, .val (.long cv), .second] []))
        refine own_by (fun _ k => XS.aloadN X_loopN.here hx rfl (hb hby d6_10) rfl rfl k) ?_
        show OEnds p e below s _ _ _ (T.setTop (mkF m 11 #[.val (.ref a), .val (.long vv), .second, .val (.long cv), .second] [(.ref a)]))
        refine own_by (fun _ k => XS.lloadN X_loopN.here hx rfl (hb hby d6_11) rfl k) ?_
        show OEnds p e below s _ _ _ (T.setTop (mkF m 12 #[.val (.ref a), .val (.long vv), .second, .val (.long cv), .second] [(.long cv), (.ref a)]))
        refine own_by (X_loopN.ldc2Long hx hown (mvT hZ (hw _ (List.mem_of_getElem? (i := 37) rfl))) (g := (mkF m 12 #[.val (.ref a), .val (.long vv), .second, .val (.long cv), .second] [(.long cv), (.ref a)])) rfl (hb hby d6_12)) ?_
        show OEnds p e below s _ _ _ (T.setTop (mkF m 15 #[.val (.ref a), .val (.long vv), .second, .val (.long cv), .second] [(.long (128 : Int64)), (.long cv), (.ref a)]))
        refine own_by (fun _ k => XS.lor X_loopN.here hx rfl (hb hby d6_15) rfl k) ?_
        show OEnds p e below s _ _ _ (T.setTop (mkF m 16 #[.val (.ref a), .val (.long vv), .second, .val (.long cv), .second] [(.long (cv ||| (128 : Int64))), (.ref a)]))
        refine own_by (fun _ k => XS.l2i X_loopN.here hx rfl (hb hby d6_16) rfl k) ?_
        show OEnds p e below s _ _ _ (T.setTop (mkF m 17 #[.val (.ref a), .val (.long vv), .second, .val (.long cv), .second] [(.int ((cv ||| (128 : Int64)).toInt32)), (.ref a)]))
        refine own_by (fun _ k => XS.i2b X_loopN.here hx rfl (hb hby d6_17) rfl k) ?_
        show OEnds p e below s _ _ _ (T.setTop (mkF m 18 #[.val (.ref a), .val (.long vv), .second, .val (.long cv), .second] [(.int (((cv ||| (128 : Int64)).toInt32).toInt8.toInt32)), (.ref a)]))
        obtain ⟨v3, T3, L3, h3, X3, e3, hQ3, st3⟩ := own_callX X_loopN hx hZ (y := (⟨"com/example/fourfold/fourfold/xdr/FragmentMap", "append", "(B)V"⟩ : MethodName)) hown (hw _ (List.mem_of_getElem? (i := 38) rfl)) (hw _ (List.mem_of_getElem? (i := 39) rfl)) (hw _ (List.mem_of_getElem? (i := 40) rfl)) (hw _ (List.mem_of_getElem? (i := 41) rfl)) (hw _ (List.mem_of_getElem? (i := 6) rfl)) (hw _ (List.mem_of_getElem? (i := 5) rfl)) (by decide) Ob_loopN_a.exa (rm_append l Z a0 hw [] a (((cv ||| (128 : Int64)).toInt32).toInt8.toInt32) cb sv cz em cf (k + pre.length) cn h_loopN n0 Zz_loopN Ob_loopN_a Fa_loopN_cb ga gcb hcz (by omega) (by omega)) e_loopN (g := (mkF m 18 #[.val (.ref a), .val (.long vv), .second, .val (.long cv), .second] [(.int (((cv ||| (128 : Int64)).toInt32).toInt8.toInt32)), (.ref a)])) rfl (by rw [hml]; rfl) (argsL := [(.int (((cv ||| (128 : Int64)).toInt32).toInt8.toInt32))]) (rest := []) (lenOf pd_pBrV rfl) rfl (W := 0) (by show 2 * 0 + _ ≤ _; exact Nat.le_of_eq rfl) (hb hby d6_18) (by decide) (by decide) (by decide) (by decide)
        obtain ⟨rfl, Nq3, Kq3, O3, F3⟩ := hQ3
        have N3 := Fr.app N_loopN Nq3
        have K3 : Keep h0 h3 [a, b] := Kp_loopN.trans Kq3 (allS (Or.inl (List.mem_of_getElem? (i := 0) rfl)) (allS (own_or hcb) all0))
        have Z3 : n0 ≤ h3.size := Nat.le_trans Zz_loopN Kq3.1
        refine own_tr st3 ?_
        show OEnds p e below s _ _ _ (T3.setTop (mkF m 21 #[.val (.ref a), .val (.long vv), .second, .val (.long cv), .second] []))
        refine own_by (fun _ k => XS.lloadN X3.here hx rfl (hb hby d6_21) rfl k) ?_
        show OEnds p e below s _ _ _ (T3.setTop (mkF m 22 #[.val (.ref a), .val (.long vv), .second, .val (.long cv), .second] [(.long cv)]))
        refine own_by (fun _ k => XS.bipush X3.here hx rfl (hb hby d6_22) k) ?_
        show OEnds p e below s _ _ _ (T3.setTop (mkF m 24 #[.val (.ref a), .val (.long vv), .second, .val (.long cv), .second] [(.int (7 : Int32)), (.long cv)]))
        refine own_by (fun _ k => XS.lushr X3.here hx rfl (hb hby d6_24) rfl k) ?_
        show OEnds p e below s _ _ _ (T3.setTop (mkF m 25 #[.val (.ref a), .val (.long vv), .second, .val (.long cv), .second] [(.long ((cv.toUInt64 >>> ((7 : Int32) &&& 0x3f).toInt64.toUInt64).toInt64))]))
        refine own_by (fun _ k => XS.lstoreN X3.here hx rfl (hb hby d6_25) rfl (l' := #[.val (.ref a), .val (.long vv), .second, .val (.long ((cv.toUInt64 >>> ((7 : Int32) &&& 0x3f).toInt64.toUInt64).toInt64)), .second]) rfl k) ?_
        show OEnds p e below s _ _ _ (T3.setTop (mkF m 26 #[.val (.ref a), .val (.long vv), .second, .val (.long ((cv.toUInt64 >>> ((7 : Int32) &&& 0x3f).toInt64.toUInt64).toInt64)), .second] []))
        refine own_by (fun _ k => XS.goto X3.here hx rfl (pc0 := 26) (pc' := 2) rfl (hb hby d6_26) (by decide) (by decide) k) ?_
        show OEnds p e below s _ _ _ (T3.setTop (mkF m 2 #[.val (.ref a), .val (.long vv), .second, .val (.long ((cv.toUInt64 >>> ((7 : Int32) &&& 0x3f).toInt64.toUInt64).toInt64)), .second] []))
        have h128 := ge128 hcv hc7_2
        exact ih_N T3 _ ((cv.toUInt64 >>> ((7 : Int32) &&& 0x3f).toInt64.toUInt64).toInt64) cb cn (cz + (1 : Int32)) _ (pre ++ [(nar .byte (((cv ||| (128 : Int64)).toInt32).toInt8.toInt32))]) (u / 128) h3 Z3 X3 e3 N3 K3 O3 F3 hcb gcb hcn (put_szC hcz (by omega)) (ps_snoc hcf) (ush7 hcv) (fun bs hb => by rw [List.append_assoc]; exact hen _ (enc_more hcv h128 hb)) (by have := Nat.pow_succ 128 (j + 1); omega) (by rw [len_snoc]; omega) (by rw [len_snoc]; omega)
  exact loopN jj s₁ _ vv b nc sz f [] v h0 Z0 X0 e0 N0 K0 O0 F0 (Or.inl rfl) gb hnc (by simpa using hk) (ps_nil hfit) hv (fun bs hb => hb) hv5 (by simp) (by simp only [List.length_nil]; omega)
set_option maxRecDepth 65536 in
set_option maxHeartbeats 40000000 in
theorem rm_putG (l : Launch) (Z : State) (a0 : Array Value) (hw : ∀ d ∈ tables_1, d.before a0 Z = true) (ws : List Jvm.Cond) (a : Addr) (vv : Int64) (b : Addr) (sv : Int64) (sz : Int32) (em : Int64) (f : Nat → Int32) (k : Nat) (v : Nat) (jj : Nat) (nc : Nat) (h0 : Heap) (n0 : Nat) (Z0 : n0 ≤ h0.size) (O0 : Obj Z h0 a "com/example/fourfold/fourfold/xdr/FragmentMap" sch_fm [(.ref b), (.long sv), (.int sz), (.long em)]) (F0 : FA Z h0 b .byte nc (fun i => .int (f i))) (ga : n0 ≤ a) (gb : n0 ≤ b) (hk : sz.toInt = (k : Int)) (hkn : k ≤ nc) (hnc : nc = 16 ∨ nc = 32) (hfit : Fit f nc) (hroom : k + jj + 1 ≤ 32) (hv : vv.toInt = (v : Int)) (hv5 : v < 128 ^ (jj + 1)) :
    MetFree l (⟨"com/example/fourfold/fourfold/xdr/FragmentMap", "put", "(J)V"⟩ : MethodName) (head1 (Jvm.Cond.code (⟨"com/example/fourfold/fourfold/xdr/FragmentMap", "put", "(J)V"⟩ : MethodName) prog_88_method_5_code 5 none :: ws) ({ frames := 3, cells := 1, slots := 32, locals := 46 } : Room)) (fun a_ U => a_ = #[(.ref a), (.long vv)] ∧ Z.Warmed39 U.vm ∧ U.heap = h0) (fun _ _ _ _ _ => True) (fun _ U o U' => ∃ v_ L_, o = .returned v_ ∧ Q_put Z a b sv em f k v jj h0 n0 v_ U'.heap L_ ∧ FrameEnd U o U' L_ ({ frames := 3, cells := 1, slots := 32, locals := 46 } : Room).cells ({ frames := 3, cells := 1, slots := 32, locals := 46 } : Room).slots) := by
  refine MetFree.of_bodySF (plainFor_of_name pn_6) hisR ?_
  intro p e s m args below meth c s₁ Bd hml0 hP hK
  obtain ⟨rfl, hZ, hh⟩ := hP
  have hx := Bd.exec
  have hby := Bd.bytes
  have hlk : meth.locks = false := Bd.notSynchronized
  have hml : c.maxLocals = 5 := hml0
  have hown : s.vm.findClass "com/example/fourfold/fourfold/xdr/FragmentMap" = some m.cls := findClass_of_methodNamed Bd.named
  have hnm := (name_of_methodNamed Bd.named Bd.method).1
  have X0 : Stand p l e ({ frames := 3, cells := 1, slots := 32, locals := 46 } : Room) s m #[(.ref a), (.long vv)] below meth c s₁ [] 0 0 := Stand.of_body Bd
  have e0 : s₁.heap = h0 := by rw [← hh, Bd.state]; rfl
  have N0 := Fr.nil n0
  have K0 : Keep h0 h0 [a, b] := Keep.refl _ _
  show OEnds p e below s (Q_put Z a b sv em f k v jj h0 n0) _ _ _
  refine own_by (fun t k => castTop (ef_6 m a vv) k) ?_
  show OEnds p e below s _ _ _ (s₁.setTop (mkF m 0 #[.val (.ref a), .val (.long vv), .second, .unset, .unset] []))
  refine own_by (fun _ k => XS.lloadN X0.here hx rfl (hb hby d6_0) rfl k) ?_
  show OEnds p e below s _ _ _ (s₁.setTop (mkF m 1 #[.val (.ref a), .val (.long vv), .second, .unset, .unset] [(.long vv)]))
  refine own_by (fun _ k => XS.lstoreN X0.here hx rfl (hb hby d6_1) rfl (l' := #[.val (.ref a), .val (.long vv), .second, .val (.long vv), .second]) rfl k) ?_
  show OEnds p e below s _ _ _ (s₁.setTop (mkF m 2 #[.val (.ref a), .val (.long vv), .second, .val (.long vv), .second] []))
  have finN : ∀ (T : State) (lo : List Loc) (cv : Int64) (cb : Addr) (cn : Nat) (cz : Int32) (cf : Nat → Int32) (pre : List Int32) (u : Nat) (h_finN : Heap) (Zz_finN : n0 ≤ h_finN.size) (X_finN : Stand p l e ({ frames := 3, cells := 1, slots := 32, locals := 46 } : Room) s m #[(.ref a), (.long vv)] below meth c T lo 0 0) (e_finN : T.heap = h_finN) (N_finN : Fr n0 lo) (Kp_finN : Keep h0 h_finN [a, b]) (Ob_finN_a : Obj Z h_finN a "com/example/fourfold/fourfold/xdr/FragmentMap" sch_fm [(.ref cb), (.long sv), (.int cz), (.long em)]) (Fa_finN_cb : FA Z h_finN cb .byte cn (fun i => .int (cf i))) (hcb : cb = b ∨ h0.size ≤ cb) (gcb : n0 ≤ cb) (hcn : cn = 16 ∨ cn = 32) (hcz : cz.toInt = ((k + pre.length : Nat) : Int)) (hcf : PS f k pre cf cn) (hcv : cv.toInt = (u : Int)) (hen : ∀ bs, Enc u bs → Enc v (pre ++ bs)) (hu : u < 128) (hpl : pre.length + 1 ≤ jj + 1) (hrm : k + pre.length + 1 ≤ cn), OEnds p e below s (Q_put Z a b sv em f k v jj h0 n0) 1 32 (T.setTop (mkF m 29 #[.val (.ref a), .val (.long vv), .second, .val (.long cv), .second] [])) := by
    intro T lo cv cb cn cz cf pre u h_finN Zz_finN X_finN e_finN N_finN Kp_finN Ob_finN_a Fa_finN_cb hcb gcb hcn hcz hcf hcv hen hu hpl hrm
    show OEnds p e below s _ _ _ (T.setTop (mkF m 29 #[.val (.ref a), .val (.long vv), .second, .val (.long cv), .second] []))
    show OEnds p e below s _ _ _ (T.setTop (mkF m 29 #[.val (.ref a), .val (.long vv), .second, .val (.long cv), .second] []))
    refine own_by (fun _ k => XS.aloadN X_finN.here hx rfl (hb hby d6_29) rfl rfl k) ?_
    show OEnds p e below s _ _ _ (T.setTop (mkF m 30 #[.val (.ref a), .val (.long vv), .second, .val (.long cv), .second] [(.ref a)]))
    refine own_by (fun _ k => XS.lloadN X_finN.here hx rfl (hb hby d6_30) rfl k) ?_
    show OEnds p e below s _ _ _ (T.setTop (mkF m 31 #[.val (.ref a), .val (.long vv), .second, .val (.long cv), .second] [(.long cv), (.ref a)]))
    refine own_by (fun _ k => XS.l2i X_finN.here hx rfl (hb hby d6_31) rfl k) ?_
    show OEnds p e below s _ _ _ (T.setTop (mkF m 32 #[.val (.ref a), .val (.long vv), .second, .val (.long cv), .second] [(.int (cv.toInt32)), (.ref a)]))
    refine own_by (fun _ k => XS.i2b X_finN.here hx rfl (hb hby d6_32) rfl k) ?_
    show OEnds p e below s _ _ _ (T.setTop (mkF m 33 #[.val (.ref a), .val (.long vv), .second, .val (.long cv), .second] [(.int ((cv.toInt32).toInt8.toInt32)), (.ref a)]))
    obtain ⟨v1, T1, L1, h1, X1, e1, hQ1, st1⟩ := own_callX X_finN hx hZ (y := (⟨"com/example/fourfold/fourfold/xdr/FragmentMap", "append", "(B)V"⟩ : MethodName)) hown (hw _ (List.mem_of_getElem? (i := 38) rfl)) (hw _ (List.mem_of_getElem? (i := 39) rfl)) (hw _ (List.mem_of_getElem? (i := 40) rfl)) (hw _ (List.mem_of_getElem? (i := 41) rfl)) (hw _ (List.mem_of_getElem? (i := 6) rfl)) (hw _ (List.mem_of_getElem? (i := 5) rfl)) (by decide) Ob_finN_a.exa (rm_append l Z a0 hw [] a ((cv.toInt32).toInt8.toInt32) cb sv cz em cf (k + pre.length) cn h_finN n0 Zz_finN Ob_finN_a Fa_finN_cb ga gcb hcz (by omega) (by omega)) e_finN (g := (mkF m 33 #[.val (.ref a), .val (.long vv), .second, .val (.long cv), .second] [(.int ((cv.toInt32).toInt8.toInt32)), (.ref a)])) rfl (by rw [hml]; rfl) (argsL := [(.int ((cv.toInt32).toInt8.toInt32))]) (rest := []) (lenOf pd_pBrV rfl) rfl (W := 0) (by show 2 * 0 + _ ≤ _; exact Nat.le_of_eq rfl) (hb hby d6_33) (by decide) (by decide) (by decide) (by decide)
    obtain ⟨rfl, Nq1, Kq1, O1, F1⟩ := hQ1
    have N1 := Fr.app N_finN Nq1
    have K1 : Keep h0 h1 [a, b] := Kp_finN.trans Kq1 (allS (Or.inl (List.mem_of_getElem? (i := 0) rfl)) (allS (own_or hcb) all0))
    have Z1 : n0 ≤ h1.size := Nat.le_trans Zz_finN Kq1.1
    refine own_tr st1 ?_
    show OEnds p e below s _ _ _ (T1.setTop (mkF m 36 #[.val (.ref a), .val (.long vv), .second, .val (.long cv), .second] []))
    exact own_retV X1 hx hlk Bd.returns (hb hby d6_36) (by rw [e1]; exact ⟨rfl, N1, K1, _, _, _, _, _, hcb, gcb, hcn, (by rw [len_snoc]; omega), hen _ (enc_last hcv hu), (by rw [len_snoc]; omega), (ps_snoc hcf), (put_szC hcz (by omega)), O1, F1⟩) (by decide) (by decide)
  have loopN : ∀ (j : Nat) (T : State) (lo : List Loc) (cv : Int64) (cb : Addr) (cn : Nat) (cz : Int32) (cf : Nat → Int32) (pre : List Int32) (u : Nat) (h_loopN : Heap) (Zz_loopN : n0 ≤ h_loopN.size) (X_loopN : Stand p l e ({ frames := 3, cells := 1, slots := 32, locals := 46 } : Room) s m #[(.ref a), (.long vv)] below meth c T lo 0 0) (e_loopN : T.heap = h_loopN) (N_loopN : Fr n0 lo) (Kp_loopN : Keep h0 h_loopN [a, b]) (Ob_loopN_a : Obj Z h_loopN a "com/example/fourfold/fourfold/xdr/FragmentMap" sch_fm [(.ref cb), (.long sv), (.int cz), (.long em)]) (Fa_loopN_cb : FA Z h_loopN cb .byte cn (fun i => .int (cf i))) (hcb : cb = b ∨ h0.size ≤ cb) (gcb : n0 ≤ cb) (hcn : cn = 16 ∨ cn = 32) (hcz : cz.toInt = ((k + pre.length : Nat) : Int)) (hcf : PS f k pre cf cn) (hcv : cv.toInt = (u : Int)) (hen : ∀ bs, Enc u bs → Enc v (pre ++ bs)) (hj : u < 128 ^ (j + 1)) (hpl : pre.length + j + 1 ≤ jj + 1) (hrm : k + pre.length + j + 1 ≤ cn), OEnds p e below s (Q_put Z a b sv em f k v jj h0 n0) 1 32 (T.setTop (mkF m 2 #[.val (.ref a), .val (.long vv), .second, .val (.long cv), .second] [])) := by
    intro j
    induction j with
    | zero =>
      intro T lo cv cb cn cz cf pre u h_loopN Zz_loopN X_loopN e_loopN N_loopN Kp_loopN Ob_loopN_a Fa_loopN_cb hcb gcb hcn hcz hcf hcv hen hj hpl hrm
      show OEnds p e below s _ _ _ (T.setTop (mkF m 2 #[.val (.ref a), .val (.long vv), .second, .val (.long cv), .second] []))
      refine own_by (fun _ k => XS.lloadN X_loopN.here hx rfl (hb hby d6_2) rfl k) ?_
      show OEnds p e below s _ _ _ (T.setTop (mkF m 3 #[.val (.ref a), .val (.long vv), .second, .val (.long cv), .second] [(.long cv)]))
      refine own_by (X_loopN.ldc2Long hx hown (mvT hZ (hw _ (List.mem_of_getElem? (i := 37) rfl))) (g := (mkF m 3 #[.val (.ref a), .val (.long vv), .second, .val (.long cv), .second] [(.long cv)])) rfl (hb hby d6_3)) ?_
      show OEnds p e below s _ _ _ (T.setTop (mkF m 6 #[.val (.ref a), .val (.long vv), .second, .val (.long cv), .second] [(.long (128 : Int64)), (.long cv)]))
      refine own_by (fun _ k => XS.lcmp X_loopN.here hx rfl (hb hby d6_6) rfl k) ?_
      show OEnds p e below s _ _ _ (T.setTop (mkF m 7 #[.val (.ref a), .val (.long vv), .second, .val (.long cv), .second] [(.int (lcmpW cv (128 : Int64)))]))
      refine own_by (fun _ k => XS.ifYes X_loopN.here hx rfl (pc0 := 7) (pc' := 29) rfl (hb hby d6_7) rfl ((if0 _ _).trans (tlt ((lw_lt _ _).mpr (lt128 hcv (by omega)))).1) (by decide) (by decide) k) ?_
      show OEnds p e below s _ _ _ (T.setTop (mkF m 29 #[.val (.ref a), .val (.long vv), .second, .val (.long cv), .second] []))
      exact finN T _ cv cb cn cz cf pre u h_loopN Zz_loopN X_loopN e_loopN N_loopN Kp_loopN Ob_loopN_a Fa_loopN_cb hcb gcb hcn hcz hcf hcv hen (by omega) (by omega) (by omega)
    | succ j ih_N =>
      intro T lo cv cb cn cz cf pre u h_loopN Zz_loopN X_loopN e_loopN N_loopN Kp_loopN Ob_loopN_a Fa_loopN_cb hcb gcb hcn hcz hcf hcv hen hj hpl hrm
      show OEnds p e below s _ _ _ (T.setTop (mkF m 2 #[.val (.ref a), .val (.long vv), .second, .val (.long cv), .second] []))
      refine own_by (fun _ k => XS.lloadN X_loopN.here hx rfl (hb hby d6_2) rfl k) ?_
      show OEnds p e below s _ _ _ (T.setTop (mkF m 3 #[.val (.ref a), .val (.long vv), .second, .val (.long cv), .second] [(.long cv)]))
      refine own_by (X_loopN.ldc2Long hx hown (mvT hZ (hw _ (List.mem_of_getElem? (i := 37) rfl))) (g := (mkF m 3 #[.val (.ref a), .val (.long vv), .second, .val (.long cv), .second] [(.long cv)])) rfl (hb hby d6_3)) ?_
      show OEnds p e below s _ _ _ (T.setTop (mkF m 6 #[.val (.ref a), .val (.long vv), .second, .val (.long cv), .second] [(.long (128 : Int64)), (.long cv)]))
      refine own_by (fun _ k => XS.lcmp X_loopN.here hx rfl (hb hby d6_6) rfl k) ?_
      show OEnds p e below s _ _ _ (T.setTop (mkF m 7 #[.val (.ref a), .val (.long vv), .second, .val (.long cv), .second] [(.int (lcmpW cv (128 : Int64)))]))
      by_cases hc7_2 : cv < (128 : Int64)
      · refine own_by (fun _ k => XS.ifYes X_loopN.here hx rfl (pc0 := 7) (pc' := 29) rfl (hb hby d6_7) rfl ((if0 _ _).trans (tlt ((lw_lt _ _).mpr hc7_2)).1) (by decide) (by decide) k) ?_
        show OEnds p e below s _ _ _ (T.setTop (mkF m 29 #[.val (.ref a), .val (.long vv), .second, .val (.long cv), .second] []))
        exact finN T _ cv cb cn cz cf pre u h_loopN Zz_loopN X_loopN e_loopN N_loopN Kp_loopN Ob_loopN_a Fa_loopN_cb hcb gcb hcn hcz hcf hcv hen (lt128' hcv hc7_2) (by omega) (by omega)
      · refine own_by (fun _ k => XS.ifNo X_loopN.here hx rfl (hb hby d6_7) rfl ((if0 _ _).trans (flt (fun q => hc7_2 ((lw_lt _ _).mp q))).1) k) ?_
        show OEnds p e below s _ _ _ (T.setTop (mkF m 10 #[.val (.ref a), .val (.long vv), .second, .val (.long cv), .second] []))
        refine own_by (fun _ k => XS.aloadN X_loopN.here hx rfl (hb hby d6_10) rfl rfl k) ?_
        show OEnds p e below s _ _ _ (T.setTop (mkF m 11 #[.val (.ref a), .val (.long vv), .second, .val (.long cv), .second] [(.ref a)]))
        refine own_by (fun _ k => XS.lloadN X_loopN.here hx rfl (hb hby d6_11) rfl k) ?_
        show OEnds p e below s _ _ _ (T.setTop (mkF m 12 #[.val (.ref a), .val (.long vv), .second, .val (.long cv), .second] [(.long cv), (.ref a)]))
        refine own_by (X_loopN.ldc2Long hx hown (mvT hZ (hw _ (List.mem_of_getElem? (i := 37) rfl))) (g := (mkF m 12 #[.val (.ref a), .val (.long vv), .second, .val (.long cv), .second] [(.long cv), (.ref a)])) rfl (hb hby d6_12)) ?_
        show OEnds p e below s _ _ _ (T.setTop (mkF m 15 #[.val (.ref a), .val (.long vv), .second, .val (.long cv), .second] [(.long (128 : Int64)), (.long cv), (.ref a)]))
        refine own_by (fun _ k => XS.lor X_loopN.here hx rfl (hb hby d6_15) rfl k) ?_
        show OEnds p e below s _ _ _ (T.setTop (mkF m 16 #[.val (.ref a), .val (.long vv), .second, .val (.long cv), .second] [(.long (cv ||| (128 : Int64))), (.ref a)]))
        refine own_by (fun _ k => XS.l2i X_loopN.here hx rfl (hb hby d6_16) rfl k) ?_
        show OEnds p e below s _ _ _ (T.setTop (mkF m 17 #[.val (.ref a), .val (.long vv), .second, .val (.long cv), .second] [(.int ((cv ||| (128 : Int64)).toInt32)), (.ref a)]))
        refine own_by (fun _ k => XS.i2b X_loopN.here hx rfl (hb hby d6_17) rfl k) ?_
        show OEnds p e below s _ _ _ (T.setTop (mkF m 18 #[.val (.ref a), .val (.long vv), .second, .val (.long cv), .second] [(.int (((cv ||| (128 : Int64)).toInt32).toInt8.toInt32)), (.ref a)]))
        obtain ⟨v3, T3, L3, h3, X3, e3, hQ3, st3⟩ := own_callX X_loopN hx hZ (y := (⟨"com/example/fourfold/fourfold/xdr/FragmentMap", "append", "(B)V"⟩ : MethodName)) hown (hw _ (List.mem_of_getElem? (i := 38) rfl)) (hw _ (List.mem_of_getElem? (i := 39) rfl)) (hw _ (List.mem_of_getElem? (i := 40) rfl)) (hw _ (List.mem_of_getElem? (i := 41) rfl)) (hw _ (List.mem_of_getElem? (i := 6) rfl)) (hw _ (List.mem_of_getElem? (i := 5) rfl)) (by decide) Ob_loopN_a.exa (rm_append l Z a0 hw [] a (((cv ||| (128 : Int64)).toInt32).toInt8.toInt32) cb sv cz em cf (k + pre.length) cn h_loopN n0 Zz_loopN Ob_loopN_a Fa_loopN_cb ga gcb hcz (by omega) (by omega)) e_loopN (g := (mkF m 18 #[.val (.ref a), .val (.long vv), .second, .val (.long cv), .second] [(.int (((cv ||| (128 : Int64)).toInt32).toInt8.toInt32)), (.ref a)])) rfl (by rw [hml]; rfl) (argsL := [(.int (((cv ||| (128 : Int64)).toInt32).toInt8.toInt32))]) (rest := []) (lenOf pd_pBrV rfl) rfl (W := 0) (by show 2 * 0 + _ ≤ _; exact Nat.le_of_eq rfl) (hb hby d6_18) (by decide) (by decide) (by decide) (by decide)
        obtain ⟨rfl, Nq3, Kq3, O3, F3⟩ := hQ3
        have N3 := Fr.app N_loopN Nq3
        have K3 : Keep h0 h3 [a, b] := Kp_loopN.trans Kq3 (allS (Or.inl (List.mem_of_getElem? (i := 0) rfl)) (allS (own_or hcb) all0))
        have Z3 : n0 ≤ h3.size := Nat.le_trans Zz_loopN Kq3.1
        refine own_tr st3 ?_
        show OEnds p e below s _ _ _ (T3.setTop (mkF m 21 #[.val (.ref a), .val (.long vv), .second, .val (.long cv), .second] []))
        refine own_by (fun _ k => XS.lloadN X3.here hx rfl (hb hby d6_21) rfl k) ?_
        show OEnds p e below s _ _ _ (T3.setTop (mkF m 22 #[.val (.ref a), .val (.long vv), .second, .val (.long cv), .second] [(.long cv)]))
        refine own_by (fun _ k => XS.bipush X3.here hx rfl (hb hby d6_22) k) ?_
        show OEnds p e below s _ _ _ (T3.setTop (mkF m 24 #[.val (.ref a), .val (.long vv), .second, .val (.long cv), .second] [(.int (7 : Int32)), (.long cv)]))
        refine own_by (fun _ k => XS.lushr X3.here hx rfl (hb hby d6_24) rfl k) ?_
        show OEnds p e below s _ _ _ (T3.setTop (mkF m 25 #[.val (.ref a), .val (.long vv), .second, .val (.long cv), .second] [(.long ((cv.toUInt64 >>> ((7 : Int32) &&& 0x3f).toInt64.toUInt64).toInt64))]))
        refine own_by (fun _ k => XS.lstoreN X3.here hx rfl (hb hby d6_25) rfl (l' := #[.val (.ref a), .val (.long vv), .second, .val (.long ((cv.toUInt64 >>> ((7 : Int32) &&& 0x3f).toInt64.toUInt64).toInt64)), .second]) rfl k) ?_
        show OEnds p e below s _ _ _ (T3.setTop (mkF m 26 #[.val (.ref a), .val (.long vv), .second, .val (.long ((cv.toUInt64 >>> ((7 : Int32) &&& 0x3f).toInt64.toUInt64).toInt64)), .second] []))
        refine own_by (fun _ k => XS.goto X3.here hx rfl (pc0 := 26) (pc' := 2) rfl (hb hby d6_26) (by decide) (by decide) k) ?_
        show OEnds p e below s _ _ _ (T3.setTop (mkF m 2 #[.val (.ref a), .val (.long vv), .second, .val (.long ((cv.toUInt64 >>> ((7 : Int32) &&& 0x3f).toInt64.toUInt64).toInt64)), .second] []))
        have h128 := ge128 hcv hc7_2
        exact ih_N T3 _ ((cv.toUInt64 >>> ((7 : Int32) &&& 0x3f).toInt64.toUInt64).toInt64) cb cn (cz + (1 : Int32)) _ (pre ++ [(nar .byte (((cv ||| (128 : Int64)).toInt32).toInt8.toInt32))]) (u / 128) h3 Z3 X3 e3 N3 K3 O3 F3 hcb gcb hcn (put_szC hcz (by omega)) (ps_snoc hcf) (ush7 hcv) (fun bs hb => by rw [List.append_assoc]; exact hen _ (enc_more hcv h128 hb)) (by have := Nat.pow_succ 128 (j + 1); omega) (by rw [len_snoc]; omega) (by rw [len_snoc]; omega)
  have finC : ∀ (T : State) (lo : List Loc) (cv : Int64) (cb : Addr) (cn : Nat) (cz : Int32) (cf : Nat → Int32) (pre : List Int32) (u : Nat) (h_finC : Heap) (Zz_finC : n0 ≤ h_finC.size) (X_finC : Stand p l e ({ frames := 3, cells := 1, slots := 32, locals := 46 } : Room) s m #[(.ref a), (.long vv)] below meth c T lo 1 32) (e_finC : T.heap = h_finC) (N_finC : Fr n0 lo) (Kp_finC : Keep h0 h_finC [a, b]) (Ob_finC_a : Obj Z h_finC a "com/example/fourfold/fourfold/xdr/FragmentMap" sch_fm [(.ref cb), (.long sv), (.int cz), (.long em)]) (Fa_finC_cb : FA Z h_finC cb .byte cn (fun i => .int (cf i))) (hcb : cb = b ∨ h0.size ≤ cb) (gcb : n0 ≤ cb) (hcn : cn = 16 ∨ cn = 32) (hcz : cz.toInt = ((k + pre.length : Nat) : Int)) (hcf : PS f k pre cf cn) (hcv : cv.toInt = (u : Int)) (hen : ∀ bs, Enc u bs → Enc v (pre ++ bs)) (hu : u < 128) (hpl : pre.length + 1 ≤ jj + 1) (hrm : k + pre.length + 1 ≤ cn), OEnds p e below s (Q_put Z a b sv em f k v jj h0 n0) 1 32 (T.setTop (mkF m 29 #[.val (.ref a), .val (.long vv), .second, .val (.long cv), .second] [])) := by
    intro T lo cv cb cn cz cf pre u h_finC Zz_finC X_finC e_finC N_finC Kp_finC Ob_finC_a Fa_finC_cb hcb gcb hcn hcz hcf hcv hen hu hpl hrm
    show OEnds p e below s _ _ _ (T.setTop (mkF m 29 #[.val (.ref a), .val (.long vv), .second, .val (.long cv), .second] []))
    show OEnds p e below s _ _ _ (T.setTop (mkF m 29 #[.val (.ref a), .val (.long vv), .second, .val (.long cv), .second] []))
    refine own_by (fun _ k => XS.aloadN X_finC.here hx rfl (hb hby d6_29) rfl rfl k) ?_
    show OEnds p e below s _ _ _ (T.setTop (mkF m 30 #[.val (.ref a), .val (.long vv), .second, .val (.long cv), .second] [(.ref a)]))
    refine own_by (fun _ k => XS.lloadN X_finC.here hx rfl (hb hby d6_30) rfl k) ?_
    show OEnds p e below s _ _ _ (T.setTop (mkF m 31 #[.val (.ref a), .val (.long vv), .second, .val (.long cv), .second] [(.long cv), (.ref a)]))
    refine own_by (fun _ k => XS.l2i X_finC.here hx rfl (hb hby d6_31) rfl k) ?_
    show OEnds p e below s _ _ _ (T.setTop (mkF m 32 #[.val (.ref a), .val (.long vv), .second, .val (.long cv), .second] [(.int (cv.toInt32)), (.ref a)]))
    refine own_by (fun _ k => XS.i2b X_finC.here hx rfl (hb hby d6_32) rfl k) ?_
    show OEnds p e below s _ _ _ (T.setTop (mkF m 33 #[.val (.ref a), .val (.long vv), .second, .val (.long cv), .second] [(.int ((cv.toInt32).toInt8.toInt32)), (.ref a)]))
    obtain ⟨v4, T4, L4, h4, X4, e4, hQ4, st4⟩ := own_callX X_finC hx hZ (y := (⟨"com/example/fourfold/fourfold/xdr/FragmentMap", "append", "(B)V"⟩ : MethodName)) hown (hw _ (List.mem_of_getElem? (i := 38) rfl)) (hw _ (List.mem_of_getElem? (i := 39) rfl)) (hw _ (List.mem_of_getElem? (i := 40) rfl)) (hw _ (List.mem_of_getElem? (i := 41) rfl)) (hw _ (List.mem_of_getElem? (i := 6) rfl)) (hw _ (List.mem_of_getElem? (i := 5) rfl)) (by decide) Ob_finC_a.exa (rm_append l Z a0 hw [] a ((cv.toInt32).toInt8.toInt32) cb sv cz em cf (k + pre.length) cn h_finC n0 Zz_finC Ob_finC_a Fa_finC_cb ga gcb hcz (by omega) (by omega)) e_finC (g := (mkF m 33 #[.val (.ref a), .val (.long vv), .second, .val (.long cv), .second] [(.int ((cv.toInt32).toInt8.toInt32)), (.ref a)])) rfl (by rw [hml]; rfl) (argsL := [(.int ((cv.toInt32).toInt8.toInt32))]) (rest := []) (lenOf pd_pBrV rfl) rfl (W := 0) (by show 2 * 0 + _ ≤ _; exact Nat.le_of_eq rfl) (hb hby d6_33) (by decide) (by decide) (by decide) (by decide)
    obtain ⟨rfl, Nq4, Kq4, O4, F4⟩ := hQ4
    have N4 := Fr.app N_finC Nq4
    have K4 : Keep h0 h4 [a, b] := Kp_finC.trans Kq4 (allS (Or.inl (List.mem_of_getElem? (i := 0) rfl)) (allS (own_or hcb) all0))
    have Z4 : n0 ≤ h4.size := Nat.le_trans Zz_finC Kq4.1
    refine own_tr st4 ?_
    show OEnds p e below s _ _ _ (T4.setTop (mkF m 36 #[.val (.ref a), .val (.long vv), .second, .val (.long cv), .second] []))
    exact own_retV X4 hx hlk Bd.returns (hb hby d6_36) (by rw [e4]; exact ⟨rfl, N4, K4, _, _, _, _, _, hcb, gcb, hcn, (by rw [len_snoc]; omega), hen _ (enc_last hcv hu), (by rw [len_snoc]; omega), (ps_snoc hcf), (put_szC hcz (by omega)), O4, F4⟩) (by decide) (by decide)
  have loopC : ∀ (j : Nat) (T : State) (lo : List Loc) (cv : Int64) (cb : Addr) (cn : Nat) (cz : Int32) (cf : Nat → Int32) (pre : List Int32) (u : Nat) (h_loopC : Heap) (Zz_loopC : n0 ≤ h_loopC.size) (X_loopC : Stand p l e ({ frames := 3, cells := 1, slots := 32, locals := 46 } : Room) s m #[(.ref a), (.long vv)] below meth c T lo 1 32) (e_loopC : T.heap = h_loopC) (N_loopC : Fr n0 lo) (Kp_loopC : Keep h0 h_loopC [a, b]) (Ob_loopC_a : Obj Z h_loopC a "com/example/fourfold/fourfold/xdr/FragmentMap" sch_fm [(.ref cb), (.long sv), (.int cz), (.long em)]) (Fa_loopC_cb : FA Z h_loopC cb .byte cn (fun i => .int (cf i))) (hcb : cb = b ∨ h0.size ≤ cb) (gcb : n0 ≤ cb) (hcn : cn = 16 ∨ cn = 32) (hcz : cz.toInt = ((k + pre.length : Nat) : Int)) (hcf : PS f k pre cf cn) (hcv : cv.toInt = (u : Int)) (hen : ∀ bs, Enc u bs → Enc v (pre ++ bs)) (hj : u < 128 ^ (j + 1)) (hpl : pre.length + j + 1 ≤ jj + 1) (hrm : k + pre.length + j + 1 ≤ cn), OEnds p e below s (Q_put Z a b sv em f k v jj h0 n0) 1 32 (T.setTop (mkF m 2 #[.val (.ref a), .val (.long vv), .second, .val (.long cv), .second] [])) := by
    intro j
    induction j with
    | zero =>
      intro T lo cv cb cn cz cf pre u h_loopC Zz_loopC X_loopC e_loopC N_loopC Kp_loopC Ob_loopC_a Fa_loopC_cb hcb gcb hcn hcz hcf hcv hen hj hpl hrm
      show OEnds p e below s _ _ _ (T.setTop (mkF m 2 #[.val (.ref a), .val (.long vv), .second, .val (.long cv), .second] []))
      refine own_by (fun _ k => XS.lloadN X_loopC.here hx rfl (hb hby d6_2) rfl k) ?_
      show OEnds p e below s _ _ _ (T.setTop (mkF m 3 #[.val (.ref a), .val (.long vv), .second, .val (.long cv), .second] [(.long cv)]))
      refine own_by (X_loopC.ldc2Long hx hown (mvT hZ (hw _ (List.mem_of_getElem? (i := 37) rfl))) (g := (mkF m 3 #[.val (.ref a), .val (.long vv), .second, .val (.long cv), .second] [(.long cv)])) rfl (hb hby d6_3)) ?_
      show OEnds p e below s _ _ _ (T.setTop (mkF m 6 #[.val (.ref a), .val (.long vv), .second, .val (.long cv), .second] [(.long (128 : Int64)), (.long cv)]))
      refine own_by (fun _ k => XS.lcmp X_loopC.here hx rfl (hb hby d6_6) rfl k) ?_
      show OEnds p e below s _ _ _ (T.setTop (mkF m 7 #[.val (.ref a), .val (.long vv), .second, .val (.long cv), .second] [(.int (lcmpW cv (128 : Int64)))]))
      refine own_by (fun _ k => XS.ifYes X_loopC.here hx rfl (pc0 := 7) (pc' := 29) rfl (hb hby d6_7) rfl ((if0 _ _).trans (tlt ((lw_lt _ _).mpr (lt128 hcv (by omega)))).1) (by decide) (by decide) k) ?_
      show OEnds p e below s _ _ _ (T.setTop (mkF m 29 #[.val (.ref a), .val (.long vv), .second, .val (.long cv), .second] []))
      exact finC T _ cv cb cn cz cf pre u h_loopC Zz_loopC X_loopC e_loopC N_loopC Kp_loopC Ob_loopC_a Fa_loopC_cb hcb gcb hcn hcz hcf hcv hen (by omega) (by omega) (by omega)
    | succ j ih_C =>
      intro T lo cv cb cn cz cf pre u h_loopC Zz_loopC X_loopC e_loopC N_loopC Kp_loopC Ob_loopC_a Fa_loopC_cb hcb gcb hcn hcz hcf hcv hen hj hpl hrm
      show OEnds p e below s _ _ _ (T.setTop (mkF m 2 #[.val (.ref a), .val (.long vv), .second, .val (.long cv), .second] []))
      refine own_by (fun _ k => XS.lloadN X_loopC.here hx rfl (hb hby d6_2) rfl k) ?_
      show OEnds p e below s _ _ _ (T.setTop (mkF m 3 #[.val (.ref a), .val (.long vv), .second, .val (.long cv), .second] [(.long cv)]))
      refine own_by (X_loopC.ldc2Long hx hown (mvT hZ (hw _ (List.mem_of_getElem? (i := 37) rfl))) (g := (mkF m 3 #[.val (.ref a), .val (.long vv), .second, .val (.long cv), .second] [(.long cv)])) rfl (hb hby d6_3)) ?_
      show OEnds p e below s _ _ _ (T.setTop (mkF m 6 #[.val (.ref a), .val (.long vv), .second, .val (.long cv), .second] [(.long (128 : Int64)), (.long cv)]))
      refine own_by (fun _ k => XS.lcmp X_loopC.here hx rfl (hb hby d6_6) rfl k) ?_
      show OEnds p e below s _ _ _ (T.setTop (mkF m 7 #[.val (.ref a), .val (.long vv), .second, .val (.long cv), .second] [(.int (lcmpW cv (128 : Int64)))]))
      by_cases hc7_5 : cv < (128 : Int64)
      · refine own_by (fun _ k => XS.ifYes X_loopC.here hx rfl (pc0 := 7) (pc' := 29) rfl (hb hby d6_7) rfl ((if0 _ _).trans (tlt ((lw_lt _ _).mpr hc7_5)).1) (by decide) (by decide) k) ?_
        show OEnds p e below s _ _ _ (T.setTop (mkF m 29 #[.val (.ref a), .val (.long vv), .second, .val (.long cv), .second] []))
        exact finC T _ cv cb cn cz cf pre u h_loopC Zz_loopC X_loopC e_loopC N_loopC Kp_loopC Ob_loopC_a Fa_loopC_cb hcb gcb hcn hcz hcf hcv hen (lt128' hcv hc7_5) (by omega) (by omega)
      · refine own_by (fun _ k => XS.ifNo X_loopC.here hx rfl (hb hby d6_7) rfl ((if0 _ _).trans (flt (fun q => hc7_5 ((lw_lt _ _).mp q))).1) k) ?_
        show OEnds p e below s _ _ _ (T.setTop (mkF m 10 #[.val (.ref a), .val (.long vv), .second, .val (.long cv), .second] []))
        refine own_by (fun _ k => XS.aloadN X_loopC.here hx rfl (hb hby d6_10) rfl rfl k) ?_
        show OEnds p e below s _ _ _ (T.setTop (mkF m 11 #[.val (.ref a), .val (.long vv), .second, .val (.long cv), .second] [(.ref a)]))
        refine own_by (fun _ k => XS.lloadN X_loopC.here hx rfl (hb hby d6_11) rfl k) ?_
        show OEnds p e below s _ _ _ (T.setTop (mkF m 12 #[.val (.ref a), .val (.long vv), .second, .val (.long cv), .second] [(.long cv), (.ref a)]))
        refine own_by (X_loopC.ldc2Long hx hown (mvT hZ (hw _ (List.mem_of_getElem? (i := 37) rfl))) (g := (mkF m 12 #[.val (.ref a), .val (.long vv), .second, .val (.long cv), .second] [(.long cv), (.ref a)])) rfl (hb hby d6_12)) ?_
        show OEnds p e below s _ _ _ (T.setTop (mkF m 15 #[.val (.ref a), .val (.long vv), .second, .val (.long cv), .second] [(.long (128 : Int64)), (.long cv), (.ref a)]))
        refine own_by (fun _ k => XS.lor X_loopC.here hx rfl (hb hby d6_15) rfl k) ?_
        show OEnds p e below s _ _ _ (T.setTop (mkF m 16 #[.val (.ref a), .val (.long vv), .second, .val (.long cv), .second] [(.long (cv ||| (128 : Int64))), (.ref a)]))
        refine own_by (fun _ k => XS.l2i X_loopC.here hx rfl (hb hby d6_16) rfl k) ?_
        show OEnds p e below s _ _ _ (T.setTop (mkF m 17 #[.val (.ref a), .val (.long vv), .second, .val (.long cv), .second] [(.int ((cv ||| (128 : Int64)).toInt32)), (.ref a)]))
        refine own_by (fun _ k => XS.i2b X_loopC.here hx rfl (hb hby d6_17) rfl k) ?_
        show OEnds p e below s _ _ _ (T.setTop (mkF m 18 #[.val (.ref a), .val (.long vv), .second, .val (.long cv), .second] [(.int (((cv ||| (128 : Int64)).toInt32).toInt8.toInt32)), (.ref a)]))
        obtain ⟨v6, T6, L6, h6, X6, e6, hQ6, st6⟩ := own_callX X_loopC hx hZ (y := (⟨"com/example/fourfold/fourfold/xdr/FragmentMap", "append", "(B)V"⟩ : MethodName)) hown (hw _ (List.mem_of_getElem? (i := 38) rfl)) (hw _ (List.mem_of_getElem? (i := 39) rfl)) (hw _ (List.mem_of_getElem? (i := 40) rfl)) (hw _ (List.mem_of_getElem? (i := 41) rfl)) (hw _ (List.mem_of_getElem? (i := 6) rfl)) (hw _ (List.mem_of_getElem? (i := 5) rfl)) (by decide) Ob_loopC_a.exa (rm_append l Z a0 hw [] a (((cv ||| (128 : Int64)).toInt32).toInt8.toInt32) cb sv cz em cf (k + pre.length) cn h_loopC n0 Zz_loopC Ob_loopC_a Fa_loopC_cb ga gcb hcz (by omega) (by omega)) e_loopC (g := (mkF m 18 #[.val (.ref a), .val (.long vv), .second, .val (.long cv), .second] [(.int (((cv ||| (128 : Int64)).toInt32).toInt8.toInt32)), (.ref a)])) rfl (by rw [hml]; rfl) (argsL := [(.int (((cv ||| (128 : Int64)).toInt32).toInt8.toInt32))]) (rest := []) (lenOf pd_pBrV rfl) rfl (W := 0) (by show 2 * 0 + _ ≤ _; exact Nat.le_of_eq rfl) (hb hby d6_18) (by decide) (by decide) (by decide) (by decide)
        obtain ⟨rfl, Nq6, Kq6, O6, F6⟩ := hQ6
        have N6 := Fr.app N_loopC Nq6
        have K6 : Keep h0 h6 [a, b] := Kp_loopC.trans Kq6 (allS (Or.inl (List.mem_of_getElem? (i := 0) rfl)) (allS (own_or hcb) all0))
        have Z6 : n0 ≤ h6.size := Nat.le_trans Zz_loopC Kq6.1
        refine own_tr st6 ?_
        show OEnds p e below s _ _ _ (T6.setTop (mkF m 21 #[.val (.ref a), .val (.long vv), .second, .val (.long cv), .second] []))
        refine own_by (fun _ k => XS.lloadN X6.here hx rfl (hb hby d6_21) rfl k) ?_
        show OEnds p e below s _ _ _ (T6.setTop (mkF m 22 #[.val (.ref a), .val (.long vv), .second, .val (.long cv), .second] [(.long cv)]))
        refine own_by (fun _ k => XS.bipush X6.here hx rfl (hb hby d6_22) k) ?_
        show OEnds p e below s _ _ _ (T6.setTop (mkF m 24 #[.val (.ref a), .val (.long vv), .second, .val (.long cv), .second] [(.int (7 : Int32)), (.long cv)]))
        refine own_by (fun _ k => XS.lushr X6.here hx rfl (hb hby d6_24) rfl k) ?_
        show OEnds p e below s _ _ _ (T6.setTop (mkF m 25 #[.val (.ref a), .val (.long vv), .second, .val (.long cv), .second] [(.long ((cv.toUInt64 >>> ((7 : Int32) &&& 0x3f).toInt64.toUInt64).toInt64))]))
        refine own_by (fun _ k => XS.lstoreN X6.here hx rfl (hb hby d6_25) rfl (l' := #[.val (.ref a), .val (.long vv), .second, .val (.long ((cv.toUInt64 >>> ((7 : Int32) &&& 0x3f).toInt64.toUInt64).toInt64)), .second]) rfl k) ?_
        show OEnds p e below s _ _ _ (T6.setTop (mkF m 26 #[.val (.ref a), .val (.long vv), .second, .val (.long ((cv.toUInt64 >>> ((7 : Int32) &&& 0x3f).toInt64.toUInt64).toInt64)), .second] []))
        refine own_by (fun _ k => XS.goto X6.here hx rfl (pc0 := 26) (pc' := 2) rfl (hb hby d6_26) (by decide) (by decide) k) ?_
        show OEnds p e below s _ _ _ (T6.setTop (mkF m 2 #[.val (.ref a), .val (.long vv), .second, .val (.long ((cv.toUInt64 >>> ((7 : Int32) &&& 0x3f).toInt64.toUInt64).toInt64)), .second] []))
        have h128 := ge128 hcv hc7_5
        exact ih_C T6 _ ((cv.toUInt64 >>> ((7 : Int32) &&& 0x3f).toInt64.toUInt64).toInt64) cb cn (cz + (1 : Int32)) _ (pre ++ [(nar .byte (((cv ||| (128 : Int64)).toInt32).toInt8.toInt32))]) (u / 128) h6 Z6 X6 e6 N6 K6 O6 F6 hcb gcb hcn (put_szC hcz (by omega)) (ps_snoc hcf) (ush7 hcv) (fun bs hb => by rw [List.append_assoc]; exact hen _ (enc_more hcv h128 hb)) (by have := Nat.pow_succ 128 (j + 1); omega) (by rw [len_snoc]; omega) (by rw [len_snoc]; omega)
  have finG : ∀ (T : State) (lo : List Loc) (cv : Int64) (cb : Addr) (cn : Nat) (cz : Int32) (cf : Nat → Int32) (pre : List Int32) (u : Nat) (h_finG : Heap) (Zz_finG : n0 ≤ h_finG.size) (X_finG : Stand p l e ({ frames := 3, cells := 1, slots := 32, locals := 46 } : Room) s m #[(.ref a), (.long vv)] below meth c T lo 0 0) (e_finG : T.heap = h_finG) (N_finG : Fr n0 lo) (Kp_finG : Keep h0 h_finG [a, b]) (Ob_finG_a : Obj Z h_finG a "com/example/fourfold/fourfold/xdr/FragmentMap" sch_fm [(.ref cb), (.long sv), (.int cz), (.long em)]) (Fa_finG_cb : FA Z h_finG cb .byte cn (fun i => .int (cf i))) (hcb : cb = b ∨ h0.size ≤ cb) (gcb : n0 ≤ cb) (hcn : cn = 16 ∨ cn = 32) (hcz : cz.toInt = ((k + pre.length : Nat) : Int)) (hcf : PS f k pre cf cn) (hcv : cv.toInt = (u : Int)) (hen : ∀ bs, Enc u bs → Enc v (pre ++ bs)) (hc16 : cn = 16) (hle : k + pre.length ≤ 16) (hu : u < 128) (hpl : pre.length + 1 ≤ jj + 1) (hrm : k + pre.length + 1 ≤ 32), OEnds p e below s (Q_put Z a b sv em f k v jj h0 n0) 1 32 (T.setTop (mkF m 29 #[.val (.ref a), .val (.long vv), .second, .val (.long cv), .second] [])) := by
    intro T lo cv cb cn cz cf pre u h_finG Zz_finG X_finG e_finG N_finG Kp_finG Ob_finG_a Fa_finG_cb hcb gcb hcn hcz hcf hcv hen hc16 hle hu hpl hrm
    show OEnds p e below s _ _ _ (T.setTop (mkF m 29 #[.val (.ref a), .val (.long vv), .second, .val (.long cv), .second] []))
    subst hc16
    show OEnds p e below s _ _ _ (T.setTop (mkF m 29 #[.val (.ref a), .val (.long vv), .second, .val (.long cv), .second] []))
    refine own_by (fun _ k => XS.aloadN X_finG.here hx rfl (hb hby d6_29) rfl rfl k) ?_
    show OEnds p e below s _ _ _ (T.setTop (mkF m 30 #[.val (.ref a), .val (.long vv), .second, .val (.long cv), .second] [(.ref a)]))
    refine own_by (fun _ k => XS.lloadN X_finG.here hx rfl (hb hby d6_30) rfl k) ?_
    show OEnds p e below s _ _ _ (T.setTop (mkF m 31 #[.val (.ref a), .val (.long vv), .second, .val (.long cv), .second] [(.long cv), (.ref a)]))
    refine own_by (fun _ k => XS.l2i X_finG.here hx rfl (hb hby d6_31) rfl k) ?_
    show OEnds p e below s _ _ _ (T.setTop (mkF m 32 #[.val (.ref a), .val (.long vv), .second, .val (.long cv), .second] [(.int (cv.toInt32)), (.ref a)]))
    refine own_by (fun _ k => XS.i2b X_finG.here hx rfl (hb hby d6_32) rfl k) ?_
    show OEnds p e below s _ _ _ (T.setTop (mkF m 33 #[.val (.ref a), .val (.long vv), .second, .val (.long cv), .second] [(.int ((cv.toInt32).toInt8.toInt32)), (.ref a)]))
    by_cases hg : k + pre.length = 16
    · obtain rfl : cz = (16 : Int32) := i32_16 hcz hg
      show OEnds p e below s _ _ _ (T.setTop (mkF m 33 #[.val (.ref a), .val (.long vv), .second, .val (.long cv), .second] [(.int ((cv.toInt32).toInt8.toInt32)), (.ref a)]))
      obtain ⟨v7, T7, L7, h7, X7, e7, hQ7, st7⟩ := own_callX X_finG hx hZ (y := (⟨"com/example/fourfold/fourfold/xdr/FragmentMap", "append", "(B)V"⟩ : MethodName)) hown (hw _ (List.mem_of_getElem? (i := 38) rfl)) (hw _ (List.mem_of_getElem? (i := 39) rfl)) (hw _ (List.mem_of_getElem? (i := 40) rfl)) (hw _ (List.mem_of_getElem? (i := 41) rfl)) (hw _ (List.mem_of_getElem? (i := 6) rfl)) (hw _ (List.mem_of_getElem? (i := 5) rfl)) (by decide) Ob_finG_a.exa (rm_appendG l Z a0 hw [] a ((cv.toInt32).toInt8.toInt32) cb sv em cf h_finG n0 Zz_finG Ob_finG_a Fa_finG_cb ga hcf.2.2) e_finG (g := (mkF m 33 #[.val (.ref a), .val (.long vv), .second, .val (.long cv), .second] [(.int ((cv.toInt32).toInt8.toInt32)), (.ref a)])) rfl (by rw [hml]; rfl) (argsL := [(.int ((cv.toInt32).toInt8.toInt32))]) (rest := []) (lenOf pd_pBrV rfl) rfl (W := 0) (by show 2 * 0 + _ ≤ _; exact Nat.le_of_eq rfl) (hb hby d6_33) (by decide) (by decide) (by decide) (by decide)
      obtain ⟨rfl, Nq7, Kq7, nc7, sq7, gq7, O7, F7⟩ := hQ7
      have N7 := Fr.app N_finG Nq7
      have K7 : Keep h0 h7 [a, b] := Kp_finG.trans Kq7 (allS (Or.inl (List.mem_of_getElem? (i := 0) rfl)) all0)
      have Z7 : n0 ≤ h7.size := Nat.le_trans Zz_finG Kq7.1
      refine own_tr st7 ?_
      show OEnds p e below s _ _ _ (T7.setTop (mkF m 36 #[.val (.ref a), .val (.long vv), .second, .val (.long cv), .second] []))
      exact own_retV X7 hx hlk Bd.returns (hb hby d6_36) (by rw [e7]; exact ⟨rfl, N7, K7, _, _, _, _, _, (Or.inr (Nat.le_trans Kp_finG.1 sq7)), gq7, (Or.inr rfl), (by rw [len_snoc]; omega), hen _ (enc_last hcv hu), (by rw [len_snoc]; omega), (ps_grow hcf hg), (put_szG hg), O7, F7⟩) (by decide) (by decide)
    · show OEnds p e below s _ _ _ (T.setTop (mkF m 33 #[.val (.ref a), .val (.long vv), .second, .val (.long cv), .second] [(.int ((cv.toInt32).toInt8.toInt32)), (.ref a)]))
      obtain ⟨v8, T8, L8, h8, X8, e8, hQ8, st8⟩ := own_callX X_finG hx hZ (y := (⟨"com/example/fourfold/fourfold/xdr/FragmentMap", "append", "(B)V"⟩ : MethodName)) hown (hw _ (List.mem_of_getElem? (i := 38) rfl)) (hw _ (List.mem_of_getElem? (i := 39) rfl)) (hw _ (List.mem_of_getElem? (i := 40) rfl)) (hw _ (List.mem_of_getElem? (i := 41) rfl)) (hw _ (List.mem_of_getElem? (i := 6) rfl)) (hw _ (List.mem_of_getElem? (i := 5) rfl)) (by decide) Ob_finG_a.exa (rm_append l Z a0 hw [] a ((cv.toInt32).toInt8.toInt32) cb sv cz em cf (k + pre.length) 16 h_finG n0 Zz_finG Ob_finG_a Fa_finG_cb ga gcb hcz (by omega) (by omega)) e_finG (g := (mkF m 33 #[.val (.ref a), .val (.long vv), .second, .val (.long cv), .second] [(.int ((cv.toInt32).toInt8.toInt32)), (.ref a)])) rfl (by rw [hml]; rfl) (argsL := [(.int ((cv.toInt32).toInt8.toInt32))]) (rest := []) (lenOf pd_pBrV rfl) rfl (W := 0) (by show 2 * 0 + _ ≤ _; exact Nat.le_of_eq rfl) (hb hby d6_33) (by decide) (by decide) (by decide) (by decide)
      obtain ⟨rfl, Nq8, Kq8, O8, F8⟩ := hQ8
      have N8 := Fr.app N_finG Nq8
      have K8 : Keep h0 h8 [a, b] := Kp_finG.trans Kq8 (allS (Or.inl (List.mem_of_getElem? (i := 0) rfl)) (allS (own_or hcb) all0))
      have Z8 : n0 ≤ h8.size := Nat.le_trans Zz_finG Kq8.1
      refine own_tr st8 ?_
      show OEnds p e below s _ _ _ (T8.setTop (mkF m 36 #[.val (.ref a), .val (.long vv), .second, .val (.long cv), .second] []))
      exact own_retV X8 hx hlk Bd.returns (hb hby d6_36) (by rw [e8]; exact ⟨rfl, N8, K8, _, _, _, _, _, hcb, gcb, hcn, (by rw [len_snoc]; omega), hen _ (enc_last hcv hu), (by rw [len_snoc]; omega), (ps_snoc hcf), (put_szC hcz (by omega)), O8, F8⟩) (by decide) (by decide)
  have loopG : ∀ (j : Nat) (T : State) (lo : List Loc) (cv : Int64) (cb : Addr) (cn : Nat) (cz : Int32) (cf : Nat → Int32) (pre : List Int32) (u : Nat) (h_loopG : Heap) (Zz_loopG : n0 ≤ h_loopG.size) (X_loopG : Stand p l e ({ frames := 3, cells := 1, slots := 32, locals := 46 } : Room) s m #[(.ref a), (.long vv)] below meth c T lo 0 0) (e_loopG : T.heap = h_loopG) (N_loopG : Fr n0 lo) (Kp_loopG : Keep h0 h_loopG [a, b]) (Ob_loopG_a : Obj Z h_loopG a "com/example/fourfold/fourfold/xdr/FragmentMap" sch_fm [(.ref cb), (.long sv), (.int cz), (.long em)]) (Fa_loopG_cb : FA Z h_loopG cb .byte cn (fun i => .int (cf i))) (hcb : cb = b ∨ h0.size ≤ cb) (gcb : n0 ≤ cb) (hcn : cn = 16 ∨ cn = 32) (hcz : cz.toInt = ((k + pre.length : Nat) : Int)) (hcf : PS f k pre cf cn) (hcv : cv.toInt = (u : Int)) (hen : ∀ bs, Enc u bs → Enc v (pre ++ bs)) (hc16 : cn = 16) (hle : k + pre.length ≤ 16) (hj : u < 128 ^ (j + 1)) (hpl : pre.length + j + 1 ≤ jj + 1) (hrm : k + pre.length + j + 1 ≤ 32), OEnds p e below s (Q_put Z a b sv em f k v jj h0 n0) 1 32 (T.setTop (mkF m 2 #[.val (.ref a), .val (.long vv), .second, .val (.long cv), .second] [])) := by
    intro j
    induction j with
    | zero =>
      intro T lo cv cb cn cz cf pre u h_loopG Zz_loopG X_loopG e_loopG N_loopG Kp_loopG Ob_loopG_a Fa_loopG_cb hcb gcb hcn hcz hcf hcv hen hc16 hle hj hpl hrm
      show OEnds p e below s _ _ _ (T.setTop (mkF m 2 #[.val (.ref a), .val (.long vv), .second, .val (.long cv), .second] []))
      refine own_by (fun _ k => XS.lloadN X_loopG.here hx rfl (hb hby d6_2) rfl k) ?_
      show OEnds p e below s _ _ _ (T.setTop (mkF m 3 #[.val (.ref a), .val (.long vv), .second, .val (.long cv), .second] [(.long cv)]))
      refine own_by (X_loopG.ldc2Long hx hown (mvT hZ (hw _ (List.mem_of_getElem? (i := 37) rfl))) (g := (mkF m 3 #[.val (.ref a), .val (.long vv), .second, .val (.long cv), .second] [(.long cv)])) rfl (hb hby d6_3)) ?_
      show OEnds p e below s _ _ _ (T.setTop (mkF m 6 #[.val (.ref a), .val (.long vv), .second, .val (.long cv), .second] [(.long (128 : Int64)), (.long cv)]))
      refine own_by (fun _ k => XS.lcmp X_loopG.here hx rfl (hb hby d6_6) rfl k) ?_
      show OEnds p e below s _ _ _ (T.setTop (mkF m 7 #[.val (.ref a), .val (.long vv), .second, .val (.long cv), .second] [(.int (lcmpW cv (128 : Int64)))]))
      refine own_by (fun _ k => XS.ifYes X_loopG.here hx rfl (pc0 := 7) (pc' := 29) rfl (hb hby d6_7) rfl ((if0 _ _).trans (tlt ((lw_lt _ _).mpr (lt128 hcv (by omega)))).1) (by decide) (by decide) k) ?_
      show OEnds p e below s _ _ _ (T.setTop (mkF m 29 #[.val (.ref a), .val (.long vv), .second, .val (.long cv), .second] []))
      exact finG T _ cv cb cn cz cf pre u h_loopG Zz_loopG X_loopG e_loopG N_loopG Kp_loopG Ob_loopG_a Fa_loopG_cb hcb gcb hcn hcz hcf hcv hen hc16 (by omega) (by omega) (by omega) (by omega)
    | succ j ih_G =>
      intro T lo cv cb cn cz cf pre u h_loopG Zz_loopG X_loopG e_loopG N_loopG Kp_loopG Ob_loopG_a Fa_loopG_cb hcb gcb hcn hcz hcf hcv hen hc16 hle hj hpl hrm
      show OEnds p e below s _ _ _ (T.setTop (mkF m 2 #[.val (.ref a), .val (.long vv), .second, .val (.long cv), .second] []))
      subst hc16
      show OEnds p e below s _ _ _ (T.setTop (mkF m 2 #[.val (.ref a), .val (.long vv), .second, .val (.long cv), .second] []))
      refine own_by (fun _ k => XS.lloadN X_loopG.here hx rfl (hb hby d6_2) rfl k) ?_
      show OEnds p e below s _ _ _ (T.setTop (mkF m 3 #[.val (.ref a), .val (.long vv), .second, .val (.long cv), .second] [(.long cv)]))
      refine own_by (X_loopG.ldc2Long hx hown (mvT hZ (hw _ (List.mem_of_getElem? (i := 37) rfl))) (g := (mkF m 3 #[.val (.ref a), .val (.long vv), .second, .val (.long cv), .second] [(.long cv)])) rfl (hb hby d6_3)) ?_
      show OEnds p e below s _ _ _ (T.setTop (mkF m 6 #[.val (.ref a), .val (.long vv), .second, .val (.long cv), .second] [(.long (128 : Int64)), (.long cv)]))
      refine own_by (fun _ k => XS.lcmp X_loopG.here hx rfl (hb hby d6_6) rfl k) ?_
      show OEnds p e below s _ _ _ (T.setTop (mkF m 7 #[.val (.ref a), .val (.long vv), .second, .val (.long cv), .second] [(.int (lcmpW cv (128 : Int64)))]))
      by_cases hc7_9 : cv < (128 : Int64)
      · refine own_by (fun _ k => XS.ifYes X_loopG.here hx rfl (pc0 := 7) (pc' := 29) rfl (hb hby d6_7) rfl ((if0 _ _).trans (tlt ((lw_lt _ _).mpr hc7_9)).1) (by decide) (by decide) k) ?_
        show OEnds p e below s _ _ _ (T.setTop (mkF m 29 #[.val (.ref a), .val (.long vv), .second, .val (.long cv), .second] []))
        exact finG T _ cv cb 16 cz cf pre u h_loopG Zz_loopG X_loopG e_loopG N_loopG Kp_loopG Ob_loopG_a Fa_loopG_cb hcb gcb hcn hcz hcf hcv hen rfl (by omega) (lt128' hcv hc7_9) (by omega) (by omega)
      · refine own_by (fun _ k => XS.ifNo X_loopG.here hx rfl (hb hby d6_7) rfl ((if0 _ _).trans (flt (fun q => hc7_9 ((lw_lt _ _).mp q))).1) k) ?_
        show OEnds p e below s _ _ _ (T.setTop (mkF m 10 #[.val (.ref a), .val (.long vv), .second, .val (.long cv), .second] []))
        refine own_by (fun _ k => XS.aloadN X_loopG.here hx rfl (hb hby d6_10) rfl rfl k) ?_
        show OEnds p e below s _ _ _ (T.setTop (mkF m 11 #[.val (.ref a), .val (.long vv), .second, .val (.long cv), .second] [(.ref a)]))
        refine own_by (fun _ k => XS.lloadN X_loopG.here hx rfl (hb hby d6_11) rfl k) ?_
        show OEnds p e below s _ _ _ (T.setTop (mkF m 12 #[.val (.ref a), .val (.long vv), .second, .val (.long cv), .second] [(.long cv), (.ref a)]))
        refine own_by (X_loopG.ldc2Long hx hown (mvT hZ (hw _ (List.mem_of_getElem? (i := 37) rfl))) (g := (mkF m 12 #[.val (.ref a), .val (.long vv), .second, .val (.long cv), .second] [(.long cv), (.ref a)])) rfl (hb hby d6_12)) ?_
        show OEnds p e below s _ _ _ (T.setTop (mkF m 15 #[.val (.ref a), .val (.long vv), .second, .val (.long cv), .second] [(.long (128 : Int64)), (.long cv), (.ref a)]))
        refine own_by (fun _ k => XS.lor X_loopG.here hx rfl (hb hby d6_15) rfl k) ?_
        show OEnds p e below s _ _ _ (T.setTop (mkF m 16 #[.val (.ref a), .val (.long vv), .second, .val (.long cv), .second] [(.long (cv ||| (128 : Int64))), (.ref a)]))
        refine own_by (fun _ k => XS.l2i X_loopG.here hx rfl (hb hby d6_16) rfl k) ?_
        show OEnds p e below s _ _ _ (T.setTop (mkF m 17 #[.val (.ref a), .val (.long vv), .second, .val (.long cv), .second] [(.int ((cv ||| (128 : Int64)).toInt32)), (.ref a)]))
        refine own_by (fun _ k => XS.i2b X_loopG.here hx rfl (hb hby d6_17) rfl k) ?_
        show OEnds p e below s _ _ _ (T.setTop (mkF m 18 #[.val (.ref a), .val (.long vv), .second, .val (.long cv), .second] [(.int (((cv ||| (128 : Int64)).toInt32).toInt8.toInt32)), (.ref a)]))
        by_cases hg : k + pre.length = 16
        · obtain rfl : cz = (16 : Int32) := i32_16 hcz hg
          show OEnds p e below s _ _ _ (T.setTop (mkF m 18 #[.val (.ref a), .val (.long vv), .second, .val (.long cv), .second] [(.int (((cv ||| (128 : Int64)).toInt32).toInt8.toInt32)), (.ref a)]))
          obtain ⟨v10, T10, L10, h10, X10, e10, hQ10, st10⟩ := own_callX X_loopG hx hZ (y := (⟨"com/example/fourfold/fourfold/xdr/FragmentMap", "append", "(B)V"⟩ : MethodName)) hown (hw _ (List.mem_of_getElem? (i := 38) rfl)) (hw _ (List.mem_of_getElem? (i := 39) rfl)) (hw _ (List.mem_of_getElem? (i := 40) rfl)) (hw _ (List.mem_of_getElem? (i := 41) rfl)) (hw _ (List.mem_of_getElem? (i := 6) rfl)) (hw _ (List.mem_of_getElem? (i := 5) rfl)) (by decide) Ob_loopG_a.exa (rm_appendG l Z a0 hw [] a (((cv ||| (128 : Int64)).toInt32).toInt8.toInt32) cb sv em cf h_loopG n0 Zz_loopG Ob_loopG_a Fa_loopG_cb ga hcf.2.2) e_loopG (g := (mkF m 18 #[.val (.ref a), .val (.long vv), .second, .val (.long cv), .second] [(.int (((cv ||| (128 : Int64)).toInt32).toInt8.toInt32)), (.ref a)])) rfl (by rw [hml]; rfl) (argsL := [(.int (((cv ||| (128 : Int64)).toInt32).toInt8.toInt32))]) (rest := []) (lenOf pd_pBrV rfl) rfl (W := 0) (by show 2 * 0 + _ ≤ _; exact Nat.le_of_eq rfl) (hb hby d6_18) (by decide) (by decide) (by decide) (by decide)
          obtain ⟨rfl, Nq10, Kq10, nc10, sq10, gq10, O10, F10⟩ := hQ10
          have N10 := Fr.app N_loopG Nq10
          have K10 : Keep h0 h10 [a, b] := Kp_loopG.trans Kq10 (allS (Or.inl (List.mem_of_getElem? (i := 0) rfl)) all0)
          have Z10 : n0 ≤ h10.size := Nat.le_trans Zz_loopG Kq10.1
          refine own_tr st10 ?_
          show OEnds p e below s _ _ _ (T10.setTop (mkF m 21 #[.val (.ref a), .val (.long vv), .second, .val (.long cv), .second] []))
          refine own_by (fun _ k => XS.lloadN X10.here hx rfl (hb hby d6_21) rfl k) ?_
          show OEnds p e below s _ _ _ (T10.setTop (mkF m 22 #[.val (.ref a), .val (.long vv), .second, .val (.long cv), .second] [(.long cv)]))
          refine own_by (fun _ k => XS.bipush X10.here hx rfl (hb hby d6_22) k) ?_
          show OEnds p e below s _ _ _ (T10.setTop (mkF m 24 #[.val (.ref a), .val (.long vv), .second, .val (.long cv), .second] [(.int (7 : Int32)), (.long cv)]))
          refine own_by (fun _ k => XS.lushr X10.here hx rfl (hb hby d6_24) rfl k) ?_
          show OEnds p e below s _ _ _ (T10.setTop (mkF m 25 #[.val (.ref a), .val (.long vv), .second, .val (.long cv), .second] [(.long ((cv.toUInt64 >>> ((7 : Int32) &&& 0x3f).toInt64.toUInt64).toInt64))]))
          refine own_by (fun _ k => XS.lstoreN X10.here hx rfl (hb hby d6_25) rfl (l' := #[.val (.ref a), .val (.long vv), .second, .val (.long ((cv.toUInt64 >>> ((7 : Int32) &&& 0x3f).toInt64.toUInt64).toInt64)), .second]) rfl k) ?_
          show OEnds p e below s _ _ _ (T10.setTop (mkF m 26 #[.val (.ref a), .val (.long vv), .second, .val (.long ((cv.toUInt64 >>> ((7 : Int32) &&& 0x3f).toInt64.toUInt64).toInt64)), .second] []))
          refine own_by (fun _ k => XS.goto X10.here hx rfl (pc0 := 26) (pc' := 2) rfl (hb hby d6_26) (by decide) (by decide) k) ?_
          show OEnds p e below s _ _ _ (T10.setTop (mkF m 2 #[.val (.ref a), .val (.long vv), .second, .val (.long ((cv.toUInt64 >>> ((7 : Int32) &&& 0x3f).toInt64.toUInt64).toInt64)), .second] []))
          have h128 := ge128 hcv hc7_9
          exact loopC j T10 _ ((cv.toUInt64 >>> ((7 : Int32) &&& 0x3f).toInt64.toUInt64).toInt64) nc10 32 (17 : Int32) _ (pre ++ [(nar .byte (((cv ||| (128 : Int64)).toInt32).toInt8.toInt32))]) (u / 128) h10 Z10 X10 e10 N10 K10 O10 F10 (Or.inr (Nat.le_trans Kp_loopG.1 sq10)) gq10 (Or.inr rfl) (put_szG hg) (ps_grow hcf hg) (ush7 hcv) (fun bs hb => by rw [List.append_assoc]; exact hen _ (enc_more hcv h128 hb)) (by have := Nat.pow_succ 128 (j + 1); omega) (by rw [len_snoc]; omega) (by rw [len_snoc]; omega)
        · show OEnds p e below s _ _ _ (T.setTop (mkF m 18 #[.val (.ref a), .val (.long vv), .second, .val (.long cv), .second] [(.int (((cv ||| (128 : Int64)).toInt32).toInt8.toInt32)), (.ref a)]))
          obtain ⟨v11, T11, L11, h11, X11, e11, hQ11, st11⟩ := own_callX X_loopG hx hZ (y := (⟨"com/example/fourfold/fourfold/xdr/FragmentMap", "append", "(B)V"⟩ : MethodName)) hown (hw _ (List.mem_of_getElem? (i := 38) rfl)) (hw _ (List.mem_of_getElem? (i := 39) rfl)) (hw _ (List.mem_of_getElem? (i := 40) rfl)) (hw _ (List.mem_of_getElem? (i := 41) rfl)) (hw _ (List.mem_of_getElem? (i := 6) rfl)) (hw _ (List.mem_of_getElem? (i := 5) rfl)) (by decide) Ob_loopG_a.exa (rm_append l Z a0 hw [] a (((cv ||| (128 : Int64)).toInt32).toInt8.toInt32) cb sv cz em cf (k + pre.length) 16 h_loopG n0 Zz_loopG Ob_loopG_a Fa_loopG_cb ga gcb hcz (by omega) (by omega)) e_loopG (g := (mkF m 18 #[.val (.ref a), .val (.long vv), .second, .val (.long cv), .second] [(.int (((cv ||| (128 : Int64)).toInt32).toInt8.toInt32)), (.ref a)])) rfl (by rw [hml]; rfl) (argsL := [(.int (((cv ||| (128 : Int64)).toInt32).toInt8.toInt32))]) (rest := []) (lenOf pd_pBrV rfl) rfl (W := 0) (by show 2 * 0 + _ ≤ _; exact Nat.le_of_eq rfl) (hb hby d6_18) (by decide) (by decide) (by decide) (by decide)
          obtain ⟨rfl, Nq11, Kq11, O11, F11⟩ := hQ11
          have N11 := Fr.app N_loopG Nq11
          have K11 : Keep h0 h11 [a, b] := Kp_loopG.trans Kq11 (allS (Or.inl (List.mem_of_getElem? (i := 0) rfl)) (allS (own_or hcb) all0))
          have Z11 : n0 ≤ h11.size := Nat.le_trans Zz_loopG Kq11.1
          refine own_tr st11 ?_
          show OEnds p e below s _ _ _ (T11.setTop (mkF m 21 #[.val (.ref a), .val (.long vv), .second, .val (.long cv), .second] []))
          refine own_by (fun _ k => XS.lloadN X11.here hx rfl (hb hby d6_21) rfl k) ?_
          show OEnds p e below s _ _ _ (T11.setTop (mkF m 22 #[.val (.ref a), .val (.long vv), .second, .val (.long cv), .second] [(.long cv)]))
          refine own_by (fun _ k => XS.bipush X11.here hx rfl (hb hby d6_22) k) ?_
          show OEnds p e below s _ _ _ (T11.setTop (mkF m 24 #[.val (.ref a), .val (.long vv), .second, .val (.long cv), .second] [(.int (7 : Int32)), (.long cv)]))
          refine own_by (fun _ k => XS.lushr X11.here hx rfl (hb hby d6_24) rfl k) ?_
          show OEnds p e below s _ _ _ (T11.setTop (mkF m 25 #[.val (.ref a), .val (.long vv), .second, .val (.long cv), .second] [(.long ((cv.toUInt64 >>> ((7 : Int32) &&& 0x3f).toInt64.toUInt64).toInt64))]))
          refine own_by (fun _ k => XS.lstoreN X11.here hx rfl (hb hby d6_25) rfl (l' := #[.val (.ref a), .val (.long vv), .second, .val (.long ((cv.toUInt64 >>> ((7 : Int32) &&& 0x3f).toInt64.toUInt64).toInt64)), .second]) rfl k) ?_
          show OEnds p e below s _ _ _ (T11.setTop (mkF m 26 #[.val (.ref a), .val (.long vv), .second, .val (.long ((cv.toUInt64 >>> ((7 : Int32) &&& 0x3f).toInt64.toUInt64).toInt64)), .second] []))
          refine own_by (fun _ k => XS.goto X11.here hx rfl (pc0 := 26) (pc' := 2) rfl (hb hby d6_26) (by decide) (by decide) k) ?_
          show OEnds p e below s _ _ _ (T11.setTop (mkF m 2 #[.val (.ref a), .val (.long vv), .second, .val (.long ((cv.toUInt64 >>> ((7 : Int32) &&& 0x3f).toInt64.toUInt64).toInt64)), .second] []))
          have h128 := ge128 hcv hc7_9
          exact ih_G T11 _ ((cv.toUInt64 >>> ((7 : Int32) &&& 0x3f).toInt64.toUInt64).toInt64) cb 16 (cz + (1 : Int32)) _ (pre ++ [(nar .byte (((cv ||| (128 : Int64)).toInt32).toInt8.toInt32))]) (u / 128) h11 Z11 X11 e11 N11 K11 O11 F11 hcb gcb hcn (put_szC hcz (by omega)) (ps_snoc hcf) (ush7 hcv) (fun bs hb => by rw [List.append_assoc]; exact hen _ (enc_more hcv h128 hb)) rfl (by rw [len_snoc]; omega) (by have := Nat.pow_succ 128 (j + 1); omega) (by rw [len_snoc]; omega) (by rw [len_snoc]; omega)
  rcases hnc with rfl | rfl
  · exact loopG jj s₁ _ vv b 16 sz f [] v h0 Z0 X0 e0 N0 K0 O0 F0 (Or.inl rfl) gb (Or.inl rfl) (by simpa using hk) (ps_nil hfit) hv (fun bs hb => hb) rfl (by simp only [List.length_nil]; omega) hv5 (by simp) (by simp only [List.length_nil]; omega)
  · exact loopN jj s₁ _ vv b 32 sz f [] v h0 Z0 X0 e0 N0 K0 O0 F0 (Or.inl rfl) gb (Or.inr rfl) (by simpa using hk) (ps_nil hfit) hv (fun bs hb => hb) hv5 (by simp) (by simp only [List.length_nil]; omega)
theorem d5_0 : decode prog_88_method_3_code 0 = .ok (.iload_n 1, 1) := by decide +kernel
theorem d5_1 : decode prog_88_method_3_code 1 = .ok (.ifCond .ne 16, 3) := by decide +kernel
theorem d5_4 : decode prog_88_method_3_code 4 = .ok (.aload_n 0, 1) := by decide +kernel
theorem d5_5 : decode prog_88_method_3_code 5 = .ok (.dup, 1) := by decide +kernel
theorem d5_6 : decode prog_88_method_3_code 6 = .ok (.getfield 21, 3) := by decide +kernel
theorem d5_9 : decode prog_88_method_3_code 9 = .ok (.lconst 1, 1) := by decide +kernel
theorem d5_10 : decode prog_88_method_3_code 10 = .ok (.ladd, 1) := by decide +kernel
theorem d5_11 : decode prog_88_method_3_code 11 = .ok (.putfield 21, 3) := by decide +kernel
theorem d5_14 : decode prog_88_method_3_code 14 = .ok (.goto 41, 3) := by decide +kernel
theorem d5_17 : decode prog_88_method_3_code 17 = .ok (.aload_n 0, 1) := by decide +kernel
theorem d5_18 : decode prog_88_method_3_code 18 = .ok (.getfield 21, 3) := by decide +kernel
theorem d5_21 : decode prog_88_method_3_code 21 = .ok (.lconst 0, 1) := by decide +kernel
theorem d5_22 : decode prog_88_method_3_code 22 = .ok (.lcmp, 1) := by decide +kernel
theorem d5_23 : decode prog_88_method_3_code 23 = .ok (.ifCond .le 17, 3) := by decide +kernel
theorem d5_26 : decode prog_88_method_3_code 26 = .ok (.aload_n 0, 1) := by decide +kernel
theorem d5_27 : decode prog_88_method_3_code 27 = .ok (.ldc2_w 24, 3) := by decide +kernel
theorem d5_30 : decode prog_88_method_3_code 30 = .ok (.aload_n 0, 1) := by decide +kernel
theorem d5_31 : decode prog_88_method_3_code 31 = .ok (.getfield 21, 3) := by decide +kernel
theorem d5_34 : decode prog_88_method_3_code 34 = .ok (.lmul, 1) := by decide +kernel
theorem d5_35 : decode prog_88_method_3_code 35 = .ok (.lconst 1, 1) := by decide +kernel
theorem d5_36 : decode prog_88_method_3_code 36 = .ok (.ladd, 1) := by decide +kernel
theorem d5_37 : decode prog_88_method_3_code 37 = .ok (.invokevirtual 26, 3) := by decide +kernel
theorem d5_40 : decode prog_88_method_3_code 40 = .ok (.aload_n 0, 1) := by decide +kernel
theorem d5_41 : decode prog_88_method_3_code 41 = .ok (.ldc2_w 24, 3) := by decide +kernel
theorem d5_44 : decode prog_88_method_3_code 44 = .ok (.iload_n 1, 1) := by decide +kernel
theorem d5_45 : decode prog_88_method_3_code 45 = .ok (.i2l, 1) := by decide +kernel
theorem d5_46 : decode prog_88_method_3_code 46 = .ok (.lmul, 1) := by decide +kernel
theorem d5_47 : decode prog_88_method_3_code 47 = .ok (.invokevirtual 26, 3) := by decide +kernel
theorem d5_50 : decode prog_88_method_3_code 50 = .ok (.aload_n 0, 1) := by decide +kernel
theorem d5_51 : decode prog_88_method_3_code 51 = .ok (.lconst 0, 1) := by decide +kernel
theorem d5_52 : decode prog_88_method_3_code 52 = .ok (.putfield 21, 3) := by decide +kernel
theorem d5_55 : decode prog_88_method_3_code 55 = .ok (.return_, 1) := by decide +kernel
theorem pn_5 : plainName "com/example/fourfold/fourfold/xdr/FragmentMap" = true := by first | (simp [plainName, overriddenIn]; done) | decide +kernel
theorem ef_5 (m : MethodId) (x0 : Addr) (x1 : Int32) : entryFrame m #[(.ref x0), (.int x1)] 2 = mkF m 0 #[.val (.ref x0), .val (.int x1)] [] := by first | (simp [entryFrame, mkF, argsToLocals, Value.category]; done) | rfl
def Q_add (Z : State) (a b : Addr) (sv : Int64) (k : Nat) (vs : List Nat) (en u : Nat) (h0 : Heap) (n0 : Nat) (r : Option Value) (h : Heap) (L : List Loc) : Prop := r = none ∧ Fr n0 L ∧ Keep h0 h [a, b] ∧ ∃ (b' : Addr) (nc' : Nat) (f' : Nat → Int32) (k' : Nat) (sz' : Int32) (em' : Int64), (b' = b ∨ h0.size ≤ b') ∧ n0 ≤ b' ∧ (nc' = 16 ∨ nc' = 32) ∧ k' ≤ nc' ∧ k' ≤ k + 6 ∧ Fit f' nc' ∧ EncAt f' 0 (addV vs en u) k' ∧ sz'.toInt = (k' : Int) ∧ em'.toInt = ((addE en u : Nat) : Int) ∧ Obj Z h a "com/example/fourfold/fourfold/xdr/FragmentMap" sch_fm [(.ref b'), (.long sv), (.int sz'), (.long em')] ∧ FA Z h b' .byte nc' (fun i => .int (f' i))
set_option maxRecDepth 65536 in
set_option maxHeartbeats 40000000 in
theorem rm_addN (l : Launch) (Z : State) (a0 : Array Value) (hw : ∀ d ∈ tables_1, d.before a0 Z = true) (ws : List Jvm.Cond) (a : Addr) (ln : Int32) (b : Addr) (sv : Int64) (sz : Int32) (em : Int64) (f : Nat → Int32) (k : Nat) (nc : Nat) (vs : List Nat) (en : Nat) (u : Nat) (h0 : Heap) (n0 : Nat) (Z0 : n0 ≤ h0.size) (O0 : Obj Z h0 a "com/example/fourfold/fourfold/xdr/FragmentMap" sch_fm [(.ref b), (.long sv), (.int sz), (.long em)]) (F0 : FA Z h0 b .byte nc (fun i => .int (f i))) (ga : n0 ≤ a) (gb : n0 ≤ b) (hk : sz.toInt = (k : Int)) (hkn : k ≤ nc) (hnc : nc = 16 ∨ nc = 32) (hfit : Fit f nc) (hEn : EncAt f 0 vs k) (hroom : k + 6 ≤ 16) (hem : em.toInt = (en : Int)) (hen : en ≤ 4) (hu : ln.toInt = (u : Int)) (hub : u < 2147483648) :
    MetFree l (⟨"com/example/fourfold/fourfold/xdr/FragmentMap", "add", "(I)V"⟩ : MethodName) (head1 (Jvm.Cond.code (⟨"com/example/fourfold/fourfold/xdr/FragmentMap", "add", "(I)V"⟩ : MethodName) prog_88_method_3_code 2 none :: ws) ({ frames := 2, cells := 0, slots := 0, locals := 29 } : Room)) (fun a_ U => a_ = #[(.ref a), (.int ln)] ∧ Z.Warmed39 U.vm ∧ U.heap = h0) (fun _ _ _ _ _ => True) (fun _ U o U' => ∃ v_ L_, o = .returned v_ ∧ Q_add Z a b sv k vs en u h0 n0 v_ U'.heap L_ ∧ FrameEnd U o U' L_ ({ frames := 2, cells := 0, slots := 0, locals := 29 } : Room).cells ({ frames := 2, cells := 0, slots := 0, locals := 29 } : Room).slots) := by
  refine MetFree.of_bodySF (plainFor_of_name pn_5) hisR ?_
  intro p e s m args below meth c s₁ Bd hml0 hP hK
  obtain ⟨rfl, hZ, hh⟩ := hP
  have hx := Bd.exec
  have hby := Bd.bytes
  have hlk : meth.locks = false := Bd.notSynchronized
  have hml : c.maxLocals = 2 := hml0
  have hown : s.vm.findClass "com/example/fourfold/fourfold/xdr/FragmentMap" = some m.cls := findClass_of_methodNamed Bd.named
  have hnm := (name_of_methodNamed Bd.named Bd.method).1
  have X0 : Stand p l e ({ frames := 2, cells := 0, slots := 0, locals := 29 } : Room) s m #[(.ref a), (.int ln)] below meth c s₁ [] 0 0 := Stand.of_body Bd
  have e0 : s₁.heap = h0 := by rw [← hh, Bd.state]; rfl
  have N0 := Fr.nil n0
  have K0 : Keep h0 h0 [a, b] := Keep.refl _ _
  show OEnds p e below s (Q_add Z a b sv k vs en u h0 n0) _ _ _
  refine own_by (fun t k => castTop (ef_5 m a ln) k) ?_
  show OEnds p e below s _ _ _ (s₁.setTop (mkF m 0 #[.val (.ref a), .val (.int ln)] []))
  refine own_by (fun _ k => XS.iloadN X0.here hx rfl (hb hby d5_0) rfl k) ?_
  show OEnds p e below s _ _ _ (s₁.setTop (mkF m 1 #[.val (.ref a), .val (.int ln)] [(.int ln)]))
  by_cases hc1_1 : ln = (0 : Int32)
  · refine own_by (fun _ k => XS.ifNo X0.here hx rfl (hb hby d5_1) rfl ((if0 _ _).trans (teq hc1_1).2) k) ?_
    show OEnds p e below s _ _ _ (s₁.setTop (mkF m 4 #[.val (.ref a), .val (.int ln)] []))
    refine own_by (fun _ k => XS.aloadN X0.here hx rfl (hb hby d5_4) rfl rfl k) ?_
    show OEnds p e below s _ _ _ (s₁.setTop (mkF m 5 #[.val (.ref a), .val (.int ln)] [(.ref a)]))
    refine own_by (fun _ k => XS.dup X0.here hx rfl (hb hby d5_5) rfl rfl k) ?_
    show OEnds p e below s _ _ _ (s₁.setTop (mkF m 6 #[.val (.ref a), .val (.int ln)] [(.ref a), (.ref a)]))
    obtain ⟨T2, X2, e2, st2⟩ := getF X0 hx hZ hown (host := "") (Or.inl (hw _ (List.mem_of_getElem? (i := 25) rfl))) Via.refl e0 (O0.fld 3 rfl rfl) (g := (mkF m 6 #[.val (.ref a), .val (.int ln)] [(.ref a), (.ref a)])) rfl rfl (hb hby d5_6)
    refine own_by (st2) ?_
    show OEnds p e below s _ _ _ (T2.setTop (mkF m 9 #[.val (.ref a), .val (.int ln)] [(.long em), (.ref a)]))
    refine own_by (fun _ k => XS.lconst X2.here hx rfl (hb hby d5_9) k) ?_
    show OEnds p e below s _ _ _ (T2.setTop (mkF m 10 #[.val (.ref a), .val (.int ln)] [(.long (1 : Int64)), (.long em), (.ref a)]))
    refine own_by (fun _ k => XS.ladd X2.here hx rfl (hb hby d5_10) rfl k) ?_
    show OEnds p e below s _ _ _ (T2.setTop (mkF m 11 #[.val (.ref a), .val (.int ln)] [(.long (em + (1 : Int64))), (.ref a)]))
    obtain ⟨T3, h3, X3, e3, W3, st3⟩ := putF X2 hx hZ hown (host := "") (Or.inl (hw _ (List.mem_of_getElem? (i := 25) rfl))) Via.refl e2 (O0.fld 3 rfl rfl) O0.exa (Or.inl (hw _ (List.mem_of_getElem? (i := 26) rfl))) (hw _ (List.mem_of_getElem? (i := 5) rfl)) (ty := .long) (by decide) rfl rfl (g := (mkF m 11 #[.val (.ref a), .val (.int ln)] [(.long (em + (1 : Int64))), (.ref a)])) rfl rfl (hb hby d5_11)
    refine own_by (st3) ?_
    have O3 : Obj Z h3 a "com/example/fourfold/fourfold/xdr/FragmentMap" sch_fm [(.ref b), (.long sv), (.int sz), (.long (em + (1 : Int64)))] := O0.set (so_sch_fm hw) W3 3 rfl (Nat.le_of_ble_eq_true rfl)
    have N3 := Fr.snoc X3 N0 ga
    have Z3 : n0 ≤ h3.size := Nat.le_trans Z0 (Keep.of_wr W3).1
    have K3 : Keep h0 h3 [a, b] := K0.wr W3 (Or.inl (List.mem_of_getElem? (i := 0) rfl))
    show OEnds p e below s _ _ _ (T3.setTop (mkF m 14 #[.val (.ref a), .val (.int ln)] []))
    refine own_by (fun _ k => XS.goto X3.here hx rfl (pc0 := 14) (pc' := 55) rfl (hb hby d5_14) (by decide) (by decide) k) ?_
    show OEnds p e below s _ _ _ (T3.setTop (mkF m 55 #[.val (.ref a), .val (.int ln)] []))
    have F4 : FA Z h3 b .byte nc (fun i => .int (f i)) := (F0.other W3 (Ne.symm (O0.ne_fa (hw _ (List.mem_of_getElem? (i := 5) rfl)) F0)))
    exact own_retV X3 hx hlk Bd.returns (hb hby d5_55) (by rw [e3]; exact ⟨rfl, N3, K3, _, _, _, k, _, _, Or.inl rfl, gb, hnc, hkn, (by omega), hfit, (by rw [addV_Z (ln_zero hu hc1_1)]; exact hEn), hk, (addE_Z hem hen (ln_zero hu hc1_1)), O3, F4⟩) (by decide) (by decide)
  · refine own_by (fun _ k => XS.ifYes X0.here hx rfl (pc0 := 1) (pc' := 17) rfl (hb hby d5_1) rfl ((if0 _ _).trans (feq hc1_1).2) (by decide) (by decide) k) ?_
    show OEnds p e below s _ _ _ (s₁.setTop (mkF m 17 #[.val (.ref a), .val (.int ln)] []))
    refine own_by (fun _ k => XS.aloadN X0.here hx rfl (hb hby d5_17) rfl rfl k) ?_
    show OEnds p e below s _ _ _ (s₁.setTop (mkF m 18 #[.val (.ref a), .val (.int ln)] [(.ref a)]))
    obtain ⟨T5, X5, e5, st5⟩ := getF X0 hx hZ hown (host := "") (Or.inl (hw _ (List.mem_of_getElem? (i := 25) rfl))) Via.refl e0 (O0.fld 3 rfl rfl) (g := (mkF m 18 #[.val (.ref a), .val (.int ln)] [(.ref a)])) rfl rfl (hb hby d5_18)
    refine own_by (st5) ?_
    show OEnds p e below s _ _ _ (T5.setTop (mkF m 21 #[.val (.ref a), .val (.int ln)] [(.long em)]))
    refine own_by (fun _ k => XS.lconst X5.here hx rfl (hb hby d5_21) k) ?_
    show OEnds p e below s _ _ _ (T5.setTop (mkF m 22 #[.val (.ref a), .val (.int ln)] [(.long (0 : Int64)), (.long em)]))
    refine own_by (fun _ k => XS.lcmp X5.here hx rfl (hb hby d5_22) rfl k) ?_
    show OEnds p e below s _ _ _ (T5.setTop (mkF m 23 #[.val (.ref a), .val (.int ln)] [(.int (lcmpW em (0 : Int64)))]))
    by_cases hc23_6 : (0 : Int64) < em
    · refine own_by (fun _ k => XS.ifNo X5.here hx rfl (hb hby d5_23) rfl ((if0 _ _).trans (tlt ((lw_gt _ _).mpr hc23_6)).2.2.2) k) ?_
      show OEnds p e below s _ _ _ (T5.setTop (mkF m 26 #[.val (.ref a), .val (.int ln)] []))
      refine own_by (fun _ k => XS.aloadN X5.here hx rfl (hb hby d5_26) rfl rfl k) ?_
      show OEnds p e below s _ _ _ (T5.setTop (mkF m 27 #[.val (.ref a), .val (.int ln)] [(.ref a)]))
      refine own_by (X5.ldc2Long hx hown (mvT hZ (hw _ (List.mem_of_getElem? (i := 32) rfl))) (g := (mkF m 27 #[.val (.ref a), .val (.int ln)] [(.ref a)])) rfl (hb hby d5_27)) ?_
      show OEnds p e below s _ _ _ (T5.setTop (mkF m 30 #[.val (.ref a), .val (.int ln)] [(.long (2 : Int64)), (.ref a)]))
      refine own_by (fun _ k => XS.aloadN X5.here hx rfl (hb hby d5_30) rfl rfl k) ?_
      show OEnds p e below s _ _ _ (T5.setTop (mkF m 31 #[.val (.ref a), .val (.int ln)] [(.ref a), (.long (2 : Int64)), (.ref a)]))
      obtain ⟨T7, X7, e7, st7⟩ := getF X5 hx hZ hown (host := "") (Or.inl (hw _ (List.mem_of_getElem? (i := 25) rfl))) Via.refl e5 (O0.fld 3 rfl rfl) (g := (mkF m 31 #[.val (.ref a), .val (.int ln)] [(.ref a), (.long (2 : Int64)), (.ref a)])) rfl rfl (hb hby d5_31)
      refine own_by (st7) ?_
      show OEnds p e below s _ _ _ (T7.setTop (mkF m 34 #[.val (.ref a), .val (.int ln)] [(.long em), (.long (2 : Int64)), (.ref a)]))
      refine own_by (fun _ k => XS.lmul X7.here hx rfl (hb hby d5_34) rfl k) ?_
      show OEnds p e below s _ _ _ (T7.setTop (mkF m 35 #[.val (.ref a), .val (.int ln)] [(.long ((2 : Int64) * em)), (.ref a)]))
      refine own_by (fun _ k => XS.lconst X7.here hx rfl (hb hby d5_35) k) ?_
      show OEnds p e below s _ _ _ (T7.setTop (mkF m 36 #[.val (.ref a), .val (.int ln)] [(.long (1 : Int64)), (.long ((2 : Int64) * em)), (.ref a)]))
      refine own_by (fun _ k => XS.ladd X7.here hx rfl (hb hby d5_36) rfl k) ?_
      show OEnds p e below s _ _ _ (T7.setTop (mkF m 37 #[.val (.ref a), .val (.int ln)] [(.long (((2 : Int64) * em) + (1 : Int64))), (.ref a)]))
      obtain ⟨v8, T8, L8, h8, X8, e8, hQ8, st8⟩ := own_callX X7 hx hZ (y := (⟨"com/example/fourfold/fourfold/xdr/FragmentMap", "put", "(J)V"⟩ : MethodName)) hown (hw _ (List.mem_of_getElem? (i := 33) rfl)) (hw _ (List.mem_of_getElem? (i := 34) rfl)) (hw _ (List.mem_of_getElem? (i := 35) rfl)) (hw _ (List.mem_of_getElem? (i := 36) rfl)) (hw _ (List.mem_of_getElem? (i := 6) rfl)) (hw _ (List.mem_of_getElem? (i := 5) rfl)) (by decide) O0.exa (rm_putN l Z a0 hw [] a (((2 : Int64) * em) + (1 : Int64)) b sv sz em f k (2 * en + 1) 0 nc h0 n0 Z0 O0 F0 ga gb hk hkn hnc hfit (by omega) (odd_put hem hen) (by omega)) e7 (g := (mkF m 37 #[.val (.ref a), .val (.int ln)] [(.long (((2 : Int64) * em) + (1 : Int64))), (.ref a)])) rfl (by rw [hml]; rfl) (argsL := [(.long (((2 : Int64) * em) + (1 : Int64)))]) (rest := []) (lenOf pd_pJrV rfl) rfl (W := 0) (by show 2 * 0 + _ ≤ _; exact Nat.le_of_eq rfl) (hb hby d5_37) (by decide) (by decide) (by decide) (by decide)
      obtain ⟨rfl, Nq8, Kq8, pb8, pn8, pf8, bs8, sz8, ob8, gq8, hn8, hl8, hE8, hbl8, ps8, hsz8, O8, F8⟩ := hQ8
      have N8 := Fr.app N0 Nq8
      have K8 : Keep h0 h8 [a, b] := K0.trans Kq8 (allS (Or.inl (List.mem_of_getElem? (i := 0) rfl)) (allS (Or.inl (List.mem_of_getElem? (i := 1) rfl)) all0))
      have Z8 : n0 ≤ h8.size := Nat.le_trans Z0 Kq8.1
      have ow8 : pb8 = b ∨ h0.size ≤ pb8 := ob8.imp id (fun q => Nat.le_trans K0.1 q)
      refine own_tr st8 ?_
      show OEnds p e below s _ _ _ (T8.setTop (mkF m 40 #[.val (.ref a), .val (.int ln)] []))
      refine own_by (fun _ k => XS.aloadN X8.here hx rfl (hb hby d5_40) rfl rfl k) ?_
      show OEnds p e below s _ _ _ (T8.setTop (mkF m 41 #[.val (.ref a), .val (.int ln)] [(.ref a)]))
      refine own_by (X8.ldc2Long hx hown (mvT hZ (hw _ (List.mem_of_getElem? (i := 32) rfl))) (g := (mkF m 41 #[.val (.ref a), .val (.int ln)] [(.ref a)])) rfl (hb hby d5_41)) ?_
      show OEnds p e below s _ _ _ (T8.setTop (mkF m 44 #[.val (.ref a), .val (.int ln)] [(.long (2 : Int64)), (.ref a)]))
      refine own_by (fun _ k => XS.iloadN X8.here hx rfl (hb hby d5_44) rfl k) ?_
      show OEnds p e below s _ _ _ (T8.setTop (mkF m 45 #[.val (.ref a), .val (.int ln)] [(.int ln), (.long (2 : Int64)), (.ref a)]))
      refine own_by (fun _ k => XS.i2l X8.here hx rfl (hb hby d5_45) rfl k) ?_
      show OEnds p e below s _ _ _ (T8.setTop (mkF m 46 #[.val (.ref a), .val (.int ln)] [(.long (ln.toInt64)), (.long (2 : Int64)), (.ref a)]))
      refine own_by (fun _ k => XS.lmul X8.here hx rfl (hb hby d5_46) rfl k) ?_
      show OEnds p e below s _ _ _ (T8.setTop (mkF m 47 #[.val (.ref a), .val (.int ln)] [(.long ((2 : Int64) * (ln.toInt64))), (.ref a)]))
      obtain ⟨v9, T9, L9, h9, X9, e9, hQ9, st9⟩ := own_callX X8 hx hZ (y := (⟨"com/example/fourfold/fourfold/xdr/FragmentMap", "put", "(J)V"⟩ : MethodName)) hown (hw _ (List.mem_of_getElem? (i := 33) rfl)) (hw _ (List.mem_of_getElem? (i := 34) rfl)) (hw _ (List.mem_of_getElem? (i := 35) rfl)) (hw _ (List.mem_of_getElem? (i := 36) rfl)) (hw _ (List.mem_of_getElem? (i := 6) rfl)) (hw _ (List.mem_of_getElem? (i := 5) rfl)) (by decide) O8.exa (rm_putN l Z a0 hw [] a ((2 : Int64) * (ln.toInt64)) pb8 sv sz8 em pf8 (k + bs8.length) (2 * u) 4 pn8 h8 n0 Z8 O8 F8 ga gq8 hsz8 hl8 hn8 ps8.2.2 (by omega) (twice hu hub) (by omega)) e8 (g := (mkF m 47 #[.val (.ref a), .val (.int ln)] [(.long ((2 : Int64) * (ln.toInt64))), (.ref a)])) rfl (by rw [hml]; rfl) (argsL := [(.long ((2 : Int64) * (ln.toInt64)))]) (rest := []) (lenOf pd_pJrV rfl) rfl (W := 0) (by show 2 * 0 + _ ≤ _; exact Nat.le_of_eq rfl) (hb hby d5_47) (by decide) (by decide) (by decide) (by decide)
      obtain ⟨rfl, Nq9, Kq9, pb9, pn9, pf9, bs9, sz9, ob9, gq9, hn9, hl9, hE9, hbl9, ps9, hsz9, O9, F9⟩ := hQ9
      have N9 := Fr.app N8 Nq9
      have K9 : Keep h0 h9 [a, b] := K8.trans Kq9 (allS (Or.inl (List.mem_of_getElem? (i := 0) rfl)) (allS (own_or ow8) all0))
      have Z9 : n0 ≤ h9.size := Nat.le_trans Z8 Kq9.1
      have ow9 : pb9 = b ∨ h0.size ≤ pb9 := by
        rcases ob9 with q | q
        · rw [q]; exact ow8
        · exact Or.inr (Nat.le_trans K8.1 q)
      refine own_tr st9 ?_
      show OEnds p e below s _ _ _ (T9.setTop (mkF m 50 #[.val (.ref a), .val (.int ln)] []))
      refine own_by (fun _ k => XS.aloadN X9.here hx rfl (hb hby d5_50) rfl rfl k) ?_
      show OEnds p e below s _ _ _ (T9.setTop (mkF m 51 #[.val (.ref a), .val (.int ln)] [(.ref a)]))
      refine own_by (fun _ k => XS.lconst X9.here hx rfl (hb hby d5_51) k) ?_
      show OEnds p e below s _ _ _ (T9.setTop (mkF m 52 #[.val (.ref a), .val (.int ln)] [(.long (0 : Int64)), (.ref a)]))
      obtain ⟨T10, h10, X10, e10, W10, st10⟩ := putF X9 hx hZ hown (host := "") (Or.inl (hw _ (List.mem_of_getElem? (i := 25) rfl))) Via.refl e9 (O9.fld 3 rfl rfl) O9.exa (Or.inl (hw _ (List.mem_of_getElem? (i := 26) rfl))) (hw _ (List.mem_of_getElem? (i := 5) rfl)) (ty := .long) (by decide) rfl rfl (g := (mkF m 52 #[.val (.ref a), .val (.int ln)] [(.long (0 : Int64)), (.ref a)])) rfl rfl (hb hby d5_52)
      refine own_by (st10) ?_
      have O10 : Obj Z h10 a "com/example/fourfold/fourfold/xdr/FragmentMap" sch_fm [(.ref pb9), (.long sv), (.int sz9), (.long (0 : Int64))] := O9.set (so_sch_fm hw) W10 3 rfl (Nat.le_of_ble_eq_true rfl)
      have N10 := Fr.snoc X10 N9 ga
      have Z10 : n0 ≤ h10.size := Nat.le_trans Z9 (Keep.of_wr W10).1
      have K10 : Keep h0 h10 [a, b] := K9.wr W10 (Or.inl (List.mem_of_getElem? (i := 0) rfl))
      show OEnds p e below s _ _ _ (T10.setTop (mkF m 55 #[.val (.ref a), .val (.int ln)] []))
      have F11 : FA Z h10 pb9 .byte pn9 (fun i => .int (pf9 i)) := (F9.other W10 (Ne.symm (O9.ne_fa (hw _ (List.mem_of_getElem? (i := 5) rfl)) F9)))
      exact own_retV X10 hx hlk Bd.returns (hb hby d5_55) (by rw [e10]; exact ⟨rfl, N10, K10, _, _, _, (k + bs8.length + bs9.length), _, _, ow9, gq9, hn9, hl9, (by omega), ps9.2.2, (by rw [addV_2 (ln_pos hu hc1_1) (pos_em hem hc23_6)]; exact encat_ext (encat_ext hEn ps8.1 hE8 (by omega) ps8.2.1) ps9.1 hE9 hbl9 ps9.2.1), hsz9, (addE_N (ln_pos hu hc1_1)), O10, F11⟩) (by decide) (by decide)
    · refine own_by (fun _ k => XS.ifYes X5.here hx rfl (pc0 := 23) (pc' := 40) rfl (hb hby d5_23) rfl ((if0 _ _).trans (flt (fun q => hc23_6 ((lw_gt _ _).mp q))).2.2.2) (by decide) (by decide) k) ?_
      show OEnds p e below s _ _ _ (T5.setTop (mkF m 40 #[.val (.ref a), .val (.int ln)] []))
      refine own_by (fun _ k => XS.aloadN X5.here hx rfl (hb hby d5_40) rfl rfl k) ?_
      show OEnds p e below s _ _ _ (T5.setTop (mkF m 41 #[.val (.ref a), .val (.int ln)] [(.ref a)]))
      refine own_by (X5.ldc2Long hx hown (mvT hZ (hw _ (List.mem_of_getElem? (i := 32) rfl))) (g := (mkF m 41 #[.val (.ref a), .val (.int ln)] [(.ref a)])) rfl (hb hby d5_41)) ?_
      show OEnds p e below s _ _ _ (T5.setTop (mkF m 44 #[.val (.ref a), .val (.int ln)] [(.long (2 : Int64)), (.ref a)]))
      refine own_by (fun _ k => XS.iloadN X5.here hx rfl (hb hby d5_44) rfl k) ?_
      show OEnds p e below s _ _ _ (T5.setTop (mkF m 45 #[.val (.ref a), .val (.int ln)] [(.int ln), (.long (2 : Int64)), (.ref a)]))
      refine own_by (fun _ k => XS.i2l X5.here hx rfl (hb hby d5_45) rfl k) ?_
      show OEnds p e below s _ _ _ (T5.setTop (mkF m 46 #[.val (.ref a), .val (.int ln)] [(.long (ln.toInt64)), (.long (2 : Int64)), (.ref a)]))
      refine own_by (fun _ k => XS.lmul X5.here hx rfl (hb hby d5_46) rfl k) ?_
      show OEnds p e below s _ _ _ (T5.setTop (mkF m 47 #[.val (.ref a), .val (.int ln)] [(.long ((2 : Int64) * (ln.toInt64))), (.ref a)]))
      obtain ⟨v12, T12, L12, h12, X12, e12, hQ12, st12⟩ := own_callX X5 hx hZ (y := (⟨"com/example/fourfold/fourfold/xdr/FragmentMap", "put", "(J)V"⟩ : MethodName)) hown (hw _ (List.mem_of_getElem? (i := 33) rfl)) (hw _ (List.mem_of_getElem? (i := 34) rfl)) (hw _ (List.mem_of_getElem? (i := 35) rfl)) (hw _ (List.mem_of_getElem? (i := 36) rfl)) (hw _ (List.mem_of_getElem? (i := 6) rfl)) (hw _ (List.mem_of_getElem? (i := 5) rfl)) (by decide) O0.exa (rm_putN l Z a0 hw [] a ((2 : Int64) * (ln.toInt64)) b sv sz em f k (2 * u) 4 nc h0 n0 Z0 O0 F0 ga gb hk hkn hnc hfit (by omega) (twice hu hub) (by omega)) e5 (g := (mkF m 47 #[.val (.ref a), .val (.int ln)] [(.long ((2 : Int64) * (ln.toInt64))), (.ref a)])) rfl (by rw [hml]; rfl) (argsL := [(.long ((2 : Int64) * (ln.toInt64)))]) (rest := []) (lenOf pd_pJrV rfl) rfl (W := 0) (by show 2 * 0 + _ ≤ _; exact Nat.le_of_eq rfl) (hb hby d5_47) (by decide) (by decide) (by decide) (by decide)
      obtain ⟨rfl, Nq12, Kq12, pb12, pn12, pf12, bs12, sz12, ob12, gq12, hn12, hl12, hE12, hbl12, ps12, hsz12, O12, F12⟩ := hQ12
      have N12 := Fr.app N0 Nq12
      have K12 : Keep h0 h12 [a, b] := K0.trans Kq12 (allS (Or.inl (List.mem_of_getElem? (i := 0) rfl)) (allS (Or.inl (List.mem_of_getElem? (i := 1) rfl)) all0))
      have Z12 : n0 ≤ h12.size := Nat.le_trans Z0 Kq12.1
      have ow12 : pb12 = b ∨ h0.size ≤ pb12 := ob12.imp id (fun q => Nat.le_trans K0.1 q)
      refine own_tr st12 ?_
      show OEnds p e below s _ _ _ (T12.setTop (mkF m 50 #[.val (.ref a), .val (.int ln)] []))
      refine own_by (fun _ k => XS.aloadN X12.here hx rfl (hb hby d5_50) rfl rfl k) ?_
      show OEnds p e below s _ _ _ (T12.setTop (mkF m 51 #[.val (.ref a), .val (.int ln)] [(.ref a)]))
      refine own_by (fun _ k => XS.lconst X12.here hx rfl (hb hby d5_51) k) ?_
      show OEnds p e below s _ _ _ (T12.setTop (mkF m 52 #[.val (.ref a), .val (.int ln)] [(.long (0 : Int64)), (.ref a)]))
      obtain ⟨T13, h13, X13, e13, W13, st13⟩ := putF X12 hx hZ hown (host := "") (Or.inl (hw _ (List.mem_of_getElem? (i := 25) rfl))) Via.refl e12 (O12.fld 3 rfl rfl) O12.exa (Or.inl (hw _ (List.mem_of_getElem? (i := 26) rfl))) (hw _ (List.mem_of_getElem? (i := 5) rfl)) (ty := .long) (by decide) rfl rfl (g := (mkF m 52 #[.val (.ref a), .val (.int ln)] [(.long (0 : Int64)), (.ref a)])) rfl rfl (hb hby d5_52)
      refine own_by (st13) ?_
      have O13 : Obj Z h13 a "com/example/fourfold/fourfold/xdr/FragmentMap" sch_fm [(.ref pb12), (.long sv), (.int sz12), (.long (0 : Int64))] := O12.set (so_sch_fm hw) W13 3 rfl (Nat.le_of_ble_eq_true rfl)
      have N13 := Fr.snoc X13 N12 ga
      have Z13 : n0 ≤ h13.size := Nat.le_trans Z12 (Keep.of_wr W13).1
      have K13 : Keep h0 h13 [a, b] := K12.wr W13 (Or.inl (List.mem_of_getElem? (i := 0) rfl))
      show OEnds p e below s _ _ _ (T13.setTop (mkF m 55 #[.val (.ref a), .val (.int ln)] []))
      have F14 : FA Z h13 pb12 .byte pn12 (fun i => .int (pf12 i)) := (F12.other W13 (Ne.symm (O12.ne_fa (hw _ (List.mem_of_getElem? (i := 5) rfl)) F12)))
      exact own_retV X13 hx hlk Bd.returns (hb hby d5_55) (by rw [e13]; exact ⟨rfl, N13, K13, _, _, _, (k + bs12.length), _, _, ow12, gq12, hn12, hl12, (by omega), ps12.2.2, (by rw [addV_1 (ln_pos hu hc1_1) (zero_em hem hc23_6)]; exact encat_ext hEn ps12.1 hE12 hbl12 ps12.2.1), hsz12, (addE_N (ln_pos hu hc1_1)), O13, F14⟩) (by decide) (by decide)
set_option maxRecDepth 65536 in
set_option maxHeartbeats 40000000 in
theorem rm_addG (l : Launch) (Z : State) (a0 : Array Value) (hw : ∀ d ∈ tables_1, d.before a0 Z = true) (ws : List Jvm.Cond) (a : Addr) (ln : Int32) (b : Addr) (sv : Int64) (sz : Int32) (em : Int64) (f : Nat → Int32) (k : Nat) (nc : Nat) (vs : List Nat) (en : Nat) (u : Nat) (h0 : Heap) (n0 : Nat) (Z0 : n0 ≤ h0.size) (O0 : Obj Z h0 a "com/example/fourfold/fourfold/xdr/FragmentMap" sch_fm [(.ref b), (.long sv), (.int sz), (.long em)]) (F0 : FA Z h0 b .byte nc (fun i => .int (f i))) (ga : n0 ≤ a) (gb : n0 ≤ b) (hk : sz.toInt = (k : Int)) (hkn : k ≤ nc) (hnc : nc = 16 ∨ nc = 32) (hfit : Fit f nc) (hEn : EncAt f 0 vs k) (hroom : k + 6 ≤ 32) (hem : em.toInt = (en : Int)) (hen : en ≤ 4) (hu : ln.toInt = (u : Int)) (hub : u < 2147483648) :
    MetFree l (⟨"com/example/fourfold/fourfold/xdr/FragmentMap", "add", "(I)V"⟩ : MethodName) (head1 (Jvm.Cond.code (⟨"com/example/fourfold/fourfold/xdr/FragmentMap", "add", "(I)V"⟩ : MethodName) prog_88_method_3_code 2 none :: ws) ({ frames := 4, cells := 2, slots := 64, locals := 62 } : Room)) (fun a_ U => a_ = #[(.ref a), (.int ln)] ∧ Z.Warmed39 U.vm ∧ U.heap = h0) (fun _ _ _ _ _ => True) (fun _ U o U' => ∃ v_ L_, o = .returned v_ ∧ Q_add Z a b sv k vs en u h0 n0 v_ U'.heap L_ ∧ FrameEnd U o U' L_ ({ frames := 4, cells := 2, slots := 64, locals := 62 } : Room).cells ({ frames := 4, cells := 2, slots := 64, locals := 62 } : Room).slots) := by
  refine MetFree.of_bodySF (plainFor_of_name pn_5) hisR ?_
  intro p e s m args below meth c s₁ Bd hml0 hP hK
  obtain ⟨rfl, hZ, hh⟩ := hP
  have hx := Bd.exec
  have hby := Bd.bytes
  have hlk : meth.locks = false := Bd.notSynchronized
  have hml : c.maxLocals = 2 := hml0
  have hown : s.vm.findClass "com/example/fourfold/fourfold/xdr/FragmentMap" = some m.cls := findClass_of_methodNamed Bd.named
  have hnm := (name_of_methodNamed Bd.named Bd.method).1
  have X0 : Stand p l e ({ frames := 4, cells := 2, slots := 64, locals := 62 } : Room) s m #[(.ref a), (.int ln)] below meth c s₁ [] 0 0 := Stand.of_body Bd
  have e0 : s₁.heap = h0 := by rw [← hh, Bd.state]; rfl
  have N0 := Fr.nil n0
  have K0 : Keep h0 h0 [a, b] := Keep.refl _ _
  show OEnds p e below s (Q_add Z a b sv k vs en u h0 n0) _ _ _
  refine own_by (fun t k => castTop (ef_5 m a ln) k) ?_
  show OEnds p e below s _ _ _ (s₁.setTop (mkF m 0 #[.val (.ref a), .val (.int ln)] []))
  refine own_by (fun _ k => XS.iloadN X0.here hx rfl (hb hby d5_0) rfl k) ?_
  show OEnds p e below s _ _ _ (s₁.setTop (mkF m 1 #[.val (.ref a), .val (.int ln)] [(.int ln)]))
  by_cases hc1_1 : ln = (0 : Int32)
  · refine own_by (fun _ k => XS.ifNo X0.here hx rfl (hb hby d5_1) rfl ((if0 _ _).trans (teq hc1_1).2) k) ?_
    show OEnds p e below s _ _ _ (s₁.setTop (mkF m 4 #[.val (.ref a), .val (.int ln)] []))
    refine own_by (fun _ k => XS.aloadN X0.here hx rfl (hb hby d5_4) rfl rfl k) ?_
    show OEnds p e below s _ _ _ (s₁.setTop (mkF m 5 #[.val (.ref a), .val (.int ln)] [(.ref a)]))
    refine own_by (fun _ k => XS.dup X0.here hx rfl (hb hby d5_5) rfl rfl k) ?_
    show OEnds p e below s _ _ _ (s₁.setTop (mkF m 6 #[.val (.ref a), .val (.int ln)] [(.ref a), (.ref a)]))
    obtain ⟨T2, X2, e2, st2⟩ := getF X0 hx hZ hown (host := "") (Or.inl (hw _ (List.mem_of_getElem? (i := 25) rfl))) Via.refl e0 (O0.fld 3 rfl rfl) (g := (mkF m 6 #[.val (.ref a), .val (.int ln)] [(.ref a), (.ref a)])) rfl rfl (hb hby d5_6)
    refine own_by (st2) ?_
    show OEnds p e below s _ _ _ (T2.setTop (mkF m 9 #[.val (.ref a), .val (.int ln)] [(.long em), (.ref a)]))
    refine own_by (fun _ k => XS.lconst X2.here hx rfl (hb hby d5_9) k) ?_
    show OEnds p e below s _ _ _ (T2.setTop (mkF m 10 #[.val (.ref a), .val (.int ln)] [(.long (1 : Int64)), (.long em), (.ref a)]))
    refine own_by (fun _ k => XS.ladd X2.here hx rfl (hb hby d5_10) rfl k) ?_
    show OEnds p e below s _ _ _ (T2.setTop (mkF m 11 #[.val (.ref a), .val (.int ln)] [(.long (em + (1 : Int64))), (.ref a)]))
    obtain ⟨T3, h3, X3, e3, W3, st3⟩ := putF X2 hx hZ hown (host := "") (Or.inl (hw _ (List.mem_of_getElem? (i := 25) rfl))) Via.refl e2 (O0.fld 3 rfl rfl) O0.exa (Or.inl (hw _ (List.mem_of_getElem? (i := 26) rfl))) (hw _ (List.mem_of_getElem? (i := 5) rfl)) (ty := .long) (by decide) rfl rfl (g := (mkF m 11 #[.val (.ref a), .val (.int ln)] [(.long (em + (1 : Int64))), (.ref a)])) rfl rfl (hb hby d5_11)
    refine own_by (st3) ?_
    have O3 : Obj Z h3 a "com/example/fourfold/fourfold/xdr/FragmentMap" sch_fm [(.ref b), (.long sv), (.int sz), (.long (em + (1 : Int64)))] := O0.set (so_sch_fm hw) W3 3 rfl (Nat.le_of_ble_eq_true rfl)
    have N3 := Fr.snoc X3 N0 ga
    have Z3 : n0 ≤ h3.size := Nat.le_trans Z0 (Keep.of_wr W3).1
    have K3 : Keep h0 h3 [a, b] := K0.wr W3 (Or.inl (List.mem_of_getElem? (i := 0) rfl))
    show OEnds p e below s _ _ _ (T3.setTop (mkF m 14 #[.val (.ref a), .val (.int ln)] []))
    refine own_by (fun _ k => XS.goto X3.here hx rfl (pc0 := 14) (pc' := 55) rfl (hb hby d5_14) (by decide) (by decide) k) ?_
    show OEnds p e below s _ _ _ (T3.setTop (mkF m 55 #[.val (.ref a), .val (.int ln)] []))
    have F4 : FA Z h3 b .byte nc (fun i => .int (f i)) := (F0.other W3 (Ne.symm (O0.ne_fa (hw _ (List.mem_of_getElem? (i := 5) rfl)) F0)))
    exact own_retV X3 hx hlk Bd.returns (hb hby d5_55) (by rw [e3]; exact ⟨rfl, N3, K3, _, _, _, k, _, _, Or.inl rfl, gb, hnc, hkn, (by omega), hfit, (by rw [addV_Z (ln_zero hu hc1_1)]; exact hEn), hk, (addE_Z hem hen (ln_zero hu hc1_1)), O3, F4⟩) (by decide) (by decide)
  · refine own_by (fun _ k => XS.ifYes X0.here hx rfl (pc0 := 1) (pc' := 17) rfl (hb hby d5_1) rfl ((if0 _ _).trans (feq hc1_1).2) (by decide) (by decide) k) ?_
    show OEnds p e below s _ _ _ (s₁.setTop (mkF m 17 #[.val (.ref a), .val (.int ln)] []))
    refine own_by (fun _ k => XS.aloadN X0.here hx rfl (hb hby d5_17) rfl rfl k) ?_
    show OEnds p e below s _ _ _ (s₁.setTop (mkF m 18 #[.val (.ref a), .val (.int ln)] [(.ref a)]))
    obtain ⟨T5, X5, e5, st5⟩ := getF X0 hx hZ hown (host := "") (Or.inl (hw _ (List.mem_of_getElem? (i := 25) rfl))) Via.refl e0 (O0.fld 3 rfl rfl) (g := (mkF m 18 #[.val (.ref a), .val (.int ln)] [(.ref a)])) rfl rfl (hb hby d5_18)
    refine own_by (st5) ?_
    show OEnds p e below s _ _ _ (T5.setTop (mkF m 21 #[.val (.ref a), .val (.int ln)] [(.long em)]))
    refine own_by (fun _ k => XS.lconst X5.here hx rfl (hb hby d5_21) k) ?_
    show OEnds p e below s _ _ _ (T5.setTop (mkF m 22 #[.val (.ref a), .val (.int ln)] [(.long (0 : Int64)), (.long em)]))
    refine own_by (fun _ k => XS.lcmp X5.here hx rfl (hb hby d5_22) rfl k) ?_
    show OEnds p e below s _ _ _ (T5.setTop (mkF m 23 #[.val (.ref a), .val (.int ln)] [(.int (lcmpW em (0 : Int64)))]))
    by_cases hc23_6 : (0 : Int64) < em
    · refine own_by (fun _ k => XS.ifNo X5.here hx rfl (hb hby d5_23) rfl ((if0 _ _).trans (tlt ((lw_gt _ _).mpr hc23_6)).2.2.2) k) ?_
      show OEnds p e below s _ _ _ (T5.setTop (mkF m 26 #[.val (.ref a), .val (.int ln)] []))
      refine own_by (fun _ k => XS.aloadN X5.here hx rfl (hb hby d5_26) rfl rfl k) ?_
      show OEnds p e below s _ _ _ (T5.setTop (mkF m 27 #[.val (.ref a), .val (.int ln)] [(.ref a)]))
      refine own_by (X5.ldc2Long hx hown (mvT hZ (hw _ (List.mem_of_getElem? (i := 32) rfl))) (g := (mkF m 27 #[.val (.ref a), .val (.int ln)] [(.ref a)])) rfl (hb hby d5_27)) ?_
      show OEnds p e below s _ _ _ (T5.setTop (mkF m 30 #[.val (.ref a), .val (.int ln)] [(.long (2 : Int64)), (.ref a)]))
      refine own_by (fun _ k => XS.aloadN X5.here hx rfl (hb hby d5_30) rfl rfl k) ?_
      show OEnds p e below s _ _ _ (T5.setTop (mkF m 31 #[.val (.ref a), .val (.int ln)] [(.ref a), (.long (2 : Int64)), (.ref a)]))
      obtain ⟨T7, X7, e7, st7⟩ := getF X5 hx hZ hown (host := "") (Or.inl (hw _ (List.mem_of_getElem? (i := 25) rfl))) Via.refl e5 (O0.fld 3 rfl rfl) (g := (mkF m 31 #[.val (.ref a), .val (.int ln)] [(.ref a), (.long (2 : Int64)), (.ref a)])) rfl rfl (hb hby d5_31)
      refine own_by (st7) ?_
      show OEnds p e below s _ _ _ (T7.setTop (mkF m 34 #[.val (.ref a), .val (.int ln)] [(.long em), (.long (2 : Int64)), (.ref a)]))
      refine own_by (fun _ k => XS.lmul X7.here hx rfl (hb hby d5_34) rfl k) ?_
      show OEnds p e below s _ _ _ (T7.setTop (mkF m 35 #[.val (.ref a), .val (.int ln)] [(.long ((2 : Int64) * em)), (.ref a)]))
      refine own_by (fun _ k => XS.lconst X7.here hx rfl (hb hby d5_35) k) ?_
      show OEnds p e below s _ _ _ (T7.setTop (mkF m 36 #[.val (.ref a), .val (.int ln)] [(.long (1 : Int64)), (.long ((2 : Int64) * em)), (.ref a)]))
      refine own_by (fun _ k => XS.ladd X7.here hx rfl (hb hby d5_36) rfl k) ?_
      show OEnds p e below s _ _ _ (T7.setTop (mkF m 37 #[.val (.ref a), .val (.int ln)] [(.long (((2 : Int64) * em) + (1 : Int64))), (.ref a)]))
      obtain ⟨v8, T8, L8, h8, X8, e8, hQ8, st8⟩ := own_callX X7 hx hZ (y := (⟨"com/example/fourfold/fourfold/xdr/FragmentMap", "put", "(J)V"⟩ : MethodName)) hown (hw _ (List.mem_of_getElem? (i := 33) rfl)) (hw _ (List.mem_of_getElem? (i := 34) rfl)) (hw _ (List.mem_of_getElem? (i := 35) rfl)) (hw _ (List.mem_of_getElem? (i := 36) rfl)) (hw _ (List.mem_of_getElem? (i := 6) rfl)) (hw _ (List.mem_of_getElem? (i := 5) rfl)) (by decide) O0.exa (rm_putG l Z a0 hw [] a (((2 : Int64) * em) + (1 : Int64)) b sv sz em f k (2 * en + 1) 0 nc h0 n0 Z0 O0 F0 ga gb hk hkn hnc hfit (by omega) (odd_put hem hen) (by omega)) e7 (g := (mkF m 37 #[.val (.ref a), .val (.int ln)] [(.long (((2 : Int64) * em) + (1 : Int64))), (.ref a)])) rfl (by rw [hml]; rfl) (argsL := [(.long (((2 : Int64) * em) + (1 : Int64)))]) (rest := []) (lenOf pd_pJrV rfl) rfl (W := 0) (by show 2 * 0 + _ ≤ _; exact Nat.le_of_eq rfl) (hb hby d5_37) (by decide) (by decide) (by decide) (by decide)
      obtain ⟨rfl, Nq8, Kq8, pb8, pn8, pf8, bs8, sz8, ob8, gq8, hn8, hl8, hE8, hbl8, ps8, hsz8, O8, F8⟩ := hQ8
      have N8 := Fr.app N0 Nq8
      have K8 : Keep h0 h8 [a, b] := K0.trans Kq8 (allS (Or.inl (List.mem_of_getElem? (i := 0) rfl)) (allS (Or.inl (List.mem_of_getElem? (i := 1) rfl)) all0))
      have Z8 : n0 ≤ h8.size := Nat.le_trans Z0 Kq8.1
      have ow8 : pb8 = b ∨ h0.size ≤ pb8 := ob8.imp id (fun q => Nat.le_trans K0.1 q)
      refine own_tr st8 ?_
      show OEnds p e below s _ _ _ (T8.setTop (mkF m 40 #[.val (.ref a), .val (.int ln)] []))
      refine own_by (fun _ k => XS.aloadN X8.here hx rfl (hb hby d5_40) rfl rfl k) ?_
      show OEnds p e below s _ _ _ (T8.setTop (mkF m 41 #[.val (.ref a), .val (.int ln)] [(.ref a)]))
      refine own_by (X8.ldc2Long hx hown (mvT hZ (hw _ (List.mem_of_getElem? (i := 32) rfl))) (g := (mkF m 41 #[.val (.ref a), .val (.int ln)] [(.ref a)])) rfl (hb hby d5_41)) ?_
      show OEnds p e below s _ _ _ (T8.setTop (mkF m 44 #[.val (.ref a), .val (.int ln)] [(.long (2 : Int64)), (.ref a)]))
      refine own_by (fun _ k => XS.iloadN X8.here hx rfl (hb hby d5_44) rfl k) ?_
      show OEnds p e below s _ _ _ (T8.setTop (mkF m 45 #[.val (.ref a), .val (.int ln)] [(.int ln), (.long (2 : Int64)), (.ref a)]))
      refine own_by (fun _ k => XS.i2l X8.here hx rfl (hb hby d5_45) rfl k) ?_
      show OEnds p e below s _ _ _ (T8.setTop (mkF m 46 #[.val (.ref a), .val (.int ln)] [(.long (ln.toInt64)), (.long (2 : Int64)), (.ref a)]))
      refine own_by (fun _ k => XS.lmul X8.here hx rfl (hb hby d5_46) rfl k) ?_
      show OEnds p e below s _ _ _ (T8.setTop (mkF m 47 #[.val (.ref a), .val (.int ln)] [(.long ((2 : Int64) * (ln.toInt64))), (.ref a)]))
      obtain ⟨v9, T9, L9, h9, X9, e9, hQ9, st9⟩ := own_callX X8 hx hZ (y := (⟨"com/example/fourfold/fourfold/xdr/FragmentMap", "put", "(J)V"⟩ : MethodName)) hown (hw _ (List.mem_of_getElem? (i := 33) rfl)) (hw _ (List.mem_of_getElem? (i := 34) rfl)) (hw _ (List.mem_of_getElem? (i := 35) rfl)) (hw _ (List.mem_of_getElem? (i := 36) rfl)) (hw _ (List.mem_of_getElem? (i := 6) rfl)) (hw _ (List.mem_of_getElem? (i := 5) rfl)) (by decide) O8.exa (rm_putG l Z a0 hw [] a ((2 : Int64) * (ln.toInt64)) pb8 sv sz8 em pf8 (k + bs8.length) (2 * u) 4 pn8 h8 n0 Z8 O8 F8 ga gq8 hsz8 hl8 hn8 ps8.2.2 (by omega) (twice hu hub) (by omega)) e8 (g := (mkF m 47 #[.val (.ref a), .val (.int ln)] [(.long ((2 : Int64) * (ln.toInt64))), (.ref a)])) rfl (by rw [hml]; rfl) (argsL := [(.long ((2 : Int64) * (ln.toInt64)))]) (rest := []) (lenOf pd_pJrV rfl) rfl (W := 0) (by show 2 * 0 + _ ≤ _; exact Nat.le_of_eq rfl) (hb hby d5_47) (by decide) (by decide) (by decide) (by decide)
      obtain ⟨rfl, Nq9, Kq9, pb9, pn9, pf9, bs9, sz9, ob9, gq9, hn9, hl9, hE9, hbl9, ps9, hsz9, O9, F9⟩ := hQ9
      have N9 := Fr.app N8 Nq9
      have K9 : Keep h0 h9 [a, b] := K8.trans Kq9 (allS (Or.inl (List.mem_of_getElem? (i := 0) rfl)) (allS (own_or ow8) all0))
      have Z9 : n0 ≤ h9.size := Nat.le_trans Z8 Kq9.1
      have ow9 : pb9 = b ∨ h0.size ≤ pb9 := by
        rcases ob9 with q | q
        · rw [q]; exact ow8
        · exact Or.inr (Nat.le_trans K8.1 q)
      refine own_tr st9 ?_
      show OEnds p e below s _ _ _ (T9.setTop (mkF m 50 #[.val (.ref a), .val (.int ln)] []))
      refine own_by (fun _ k => XS.aloadN X9.here hx rfl (hb hby d5_50) rfl rfl k) ?_
      show OEnds p e below s _ _ _ (T9.setTop (mkF m 51 #[.val (.ref a), .val (.int ln)] [(.ref a)]))
      refine own_by (fun _ k => XS.lconst X9.here hx rfl (hb hby d5_51) k) ?_
      show OEnds p e below s _ _ _ (T9.setTop (mkF m 52 #[.val (.ref a), .val (.int ln)] [(.long (0 : Int64)), (.ref a)]))
      obtain ⟨T10, h10, X10, e10, W10, st10⟩ := putF X9 hx hZ hown (host := "") (Or.inl (hw _ (List.mem_of_getElem? (i := 25) rfl))) Via.refl e9 (O9.fld 3 rfl rfl) O9.exa (Or.inl (hw _ (List.mem_of_getElem? (i := 26) rfl))) (hw _ (List.mem_of_getElem? (i := 5) rfl)) (ty := .long) (by decide) rfl rfl (g := (mkF m 52 #[.val (.ref a), .val (.int ln)] [(.long (0 : Int64)), (.ref a)])) rfl rfl (hb hby d5_52)
      refine own_by (st10) ?_
      have O10 : Obj Z h10 a "com/example/fourfold/fourfold/xdr/FragmentMap" sch_fm [(.ref pb9), (.long sv), (.int sz9), (.long (0 : Int64))] := O9.set (so_sch_fm hw) W10 3 rfl (Nat.le_of_ble_eq_true rfl)
      have N10 := Fr.snoc X10 N9 ga
      have Z10 : n0 ≤ h10.size := Nat.le_trans Z9 (Keep.of_wr W10).1
      have K10 : Keep h0 h10 [a, b] := K9.wr W10 (Or.inl (List.mem_of_getElem? (i := 0) rfl))
      show OEnds p e below s _ _ _ (T10.setTop (mkF m 55 #[.val (.ref a), .val (.int ln)] []))
      have F11 : FA Z h10 pb9 .byte pn9 (fun i => .int (pf9 i)) := (F9.other W10 (Ne.symm (O9.ne_fa (hw _ (List.mem_of_getElem? (i := 5) rfl)) F9)))
      exact own_retV X10 hx hlk Bd.returns (hb hby d5_55) (by rw [e10]; exact ⟨rfl, N10, K10, _, _, _, (k + bs8.length + bs9.length), _, _, ow9, gq9, hn9, hl9, (by omega), ps9.2.2, (by rw [addV_2 (ln_pos hu hc1_1) (pos_em hem hc23_6)]; exact encat_ext (encat_ext hEn ps8.1 hE8 (by omega) ps8.2.1) ps9.1 hE9 hbl9 ps9.2.1), hsz9, (addE_N (ln_pos hu hc1_1)), O10, F11⟩) (by decide) (by decide)
    · refine own_by (fun _ k => XS.ifYes X5.here hx rfl (pc0 := 23) (pc' := 40) rfl (hb hby d5_23) rfl ((if0 _ _).trans (flt (fun q => hc23_6 ((lw_gt _ _).mp q))).2.2.2) (by decide) (by decide) k) ?_
      show OEnds p e below s _ _ _ (T5.setTop (mkF m 40 #[.val (.ref a), .val (.int ln)] []))
      refine own_by (fun _ k => XS.aloadN X5.here hx rfl (hb hby d5_40) rfl rfl k) ?_
      show OEnds p e below s _ _ _ (T5.setTop (mkF m 41 #[.val (.ref a), .val (.int ln)] [(.ref a)]))
      refine own_by (X5.ldc2Long hx hown (mvT hZ (hw _ (List.mem_of_getElem? (i := 32) rfl))) (g := (mkF m 41 #[.val (.ref a), .val (.int ln)] [(.ref a)])) rfl (hb hby d5_41)) ?_
      show OEnds p e below s _ _ _ (T5.setTop (mkF m 44 #[.val (.ref a), .val (.int ln)] [(.long (2 : Int64)), (.ref a)]))
      refine own_by (fun _ k => XS.iloadN X5.here hx rfl (hb hby d5_44) rfl k) ?_
      show OEnds p e below s _ _ _ (T5.setTop (mkF m 45 #[.val (.ref a), .val (.int ln)] [(.int ln), (.long (2 : Int64)), (.ref a)]))
      refine own_by (fun _ k => XS.i2l X5.here hx rfl (hb hby d5_45) rfl k) ?_
      show OEnds p e below s _ _ _ (T5.setTop (mkF m 46 #[.val (.ref a), .val (.int ln)] [(.long (ln.toInt64)), (.long (2 : Int64)), (.ref a)]))
      refine own_by (fun _ k => XS.lmul X5.here hx rfl (hb hby d5_46) rfl k) ?_
      show OEnds p e below s _ _ _ (T5.setTop (mkF m 47 #[.val (.ref a), .val (.int ln)] [(.long ((2 : Int64) * (ln.toInt64))), (.ref a)]))
      obtain ⟨v12, T12, L12, h12, X12, e12, hQ12, st12⟩ := own_callX X5 hx hZ (y := (⟨"com/example/fourfold/fourfold/xdr/FragmentMap", "put", "(J)V"⟩ : MethodName)) hown (hw _ (List.mem_of_getElem? (i := 33) rfl)) (hw _ (List.mem_of_getElem? (i := 34) rfl)) (hw _ (List.mem_of_getElem? (i := 35) rfl)) (hw _ (List.mem_of_getElem? (i := 36) rfl)) (hw _ (List.mem_of_getElem? (i := 6) rfl)) (hw _ (List.mem_of_getElem? (i := 5) rfl)) (by decide) O0.exa (rm_putG l Z a0 hw [] a ((2 : Int64) * (ln.toInt64)) b sv sz em f k (2 * u) 4 nc h0 n0 Z0 O0 F0 ga gb hk hkn hnc hfit (by omega) (twice hu hub) (by omega)) e5 (g := (mkF m 47 #[.val (.ref a), .val (.int ln)] [(.long ((2 : Int64) * (ln.toInt64))), (.ref a)])) rfl (by rw [hml]; rfl) (argsL := [(.long ((2 : Int64) * (ln.toInt64)))]) (rest := []) (lenOf pd_pJrV rfl) rfl (W := 0) (by show 2 * 0 + _ ≤ _; exact Nat.le_of_eq rfl) (hb hby d5_47) (by decide) (by decide) (by decide) (by decide)
      obtain ⟨rfl, Nq12, Kq12, pb12, pn12, pf12, bs12, sz12, ob12, gq12, hn12, hl12, hE12, hbl12, ps12, hsz12, O12, F12⟩ := hQ12
      have N12 := Fr.app N0 Nq12
      have K12 : Keep h0 h12 [a, b] := K0.trans Kq12 (allS (Or.inl (List.mem_of_getElem? (i := 0) rfl)) (allS (Or.inl (List.mem_of_getElem? (i := 1) rfl)) all0))
      have Z12 : n0 ≤ h12.size := Nat.le_trans Z0 Kq12.1
      have ow12 : pb12 = b ∨ h0.size ≤ pb12 := ob12.imp id (fun q => Nat.le_trans K0.1 q)
      refine own_tr st12 ?_
      show OEnds p e below s _ _ _ (T12.setTop (mkF m 50 #[.val (.ref a), .val (.int ln)] []))
      refine own_by (fun _ k => XS.aloadN X12.here hx rfl (hb hby d5_50) rfl rfl k) ?_
      show OEnds p e below s _ _ _ (T12.setTop (mkF m 51 #[.val (.ref a), .val (.int ln)] [(.ref a)]))
      refine own_by (fun _ k => XS.lconst X12.here hx rfl (hb hby d5_51) k) ?_
      show OEnds p e below s _ _ _ (T12.setTop (mkF m 52 #[.val (.ref a), .val (.int ln)] [(.long (0 : Int64)), (.ref a)]))
      obtain ⟨T13, h13, X13, e13, W13, st13⟩ := putF X12 hx hZ hown (host := "") (Or.inl (hw _ (List.mem_of_getElem? (i := 25) rfl))) Via.refl e12 (O12.fld 3 rfl rfl) O12.exa (Or.inl (hw _ (List.mem_of_getElem? (i := 26) rfl))) (hw _ (List.mem_of_getElem? (i := 5) rfl)) (ty := .long) (by decide) rfl rfl (g := (mkF m 52 #[.val (.ref a), .val (.int ln)] [(.long (0 : Int64)), (.ref a)])) rfl rfl (hb hby d5_52)
      refine own_by (st13) ?_
      have O13 : Obj Z h13 a "com/example/fourfold/fourfold/xdr/FragmentMap" sch_fm [(.ref pb12), (.long sv), (.int sz12), (.long (0 : Int64))] := O12.set (so_sch_fm hw) W13 3 rfl (Nat.le_of_ble_eq_true rfl)
      have N13 := Fr.snoc X13 N12 ga
      have Z13 : n0 ≤ h13.size := Nat.le_trans Z12 (Keep.of_wr W13).1
      have K13 : Keep h0 h13 [a, b] := K12.wr W13 (Or.inl (List.mem_of_getElem? (i := 0) rfl))
      show OEnds p e below s _ _ _ (T13.setTop (mkF m 55 #[.val (.ref a), .val (.int ln)] []))
      have F14 : FA Z h13 pb12 .byte pn12 (fun i => .int (pf12 i)) := (F12.other W13 (Ne.symm (O12.ne_fa (hw _ (List.mem_of_getElem? (i := 5) rfl)) F12)))
      exact own_retV X13 hx hlk Bd.returns (hb hby d5_55) (by rw [e13]; exact ⟨rfl, N13, K13, _, _, _, (k + bs12.length), _, _, ow12, gq12, hn12, hl12, (by omega), ps12.2.2, (by rw [addV_1 (ln_pos hu hc1_1) (zero_em hem hc23_6)]; exact encat_ext hEn ps12.1 hE12 hbl12 ps12.2.1), hsz12, (addE_N (ln_pos hu hc1_1)), O13, F14⟩) (by decide) (by decide)
theorem d8_26 : decode prog_88_method_4_code 26 = .ok (.aload_n 0, 1) := by decide +kernel
theorem d8_27 : decode prog_88_method_4_code 27 = .ok (.getfield 7, 3) := by decide +kernel
theorem d8_30 : decode prog_88_method_4_code 30 = .ok (.iload 7, 2) := by decide +kernel
theorem d8_32 : decode prog_88_method_4_code 32 = .ok (.iinc 7 1, 3) := by decide +kernel
theorem d8_35 : decode prog_88_method_4_code 35 = .ok (.baload, 1) := by decide +kernel
theorem d8_36 : decode prog_88_method_4_code 36 = .ok (.istore 11, 2) := by decide +kernel
theorem d8_38 : decode prog_88_method_4_code 38 = .ok (.lload 8, 2) := by decide +kernel
theorem d8_40 : decode prog_88_method_4_code 40 = .ok (.iload 11, 2) := by decide +kernel
theorem d8_42 : decode prog_88_method_4_code 42 = .ok (.bipush 127, 2) := by decide +kernel
theorem d8_44 : decode prog_88_method_4_code 44 = .ok (.iand, 1) := by decide +kernel
theorem d8_45 : decode prog_88_method_4_code 45 = .ok (.i2l, 1) := by decide +kernel
theorem d8_46 : decode prog_88_method_4_code 46 = .ok (.iload 10, 2) := by decide +kernel
theorem d8_48 : decode prog_88_method_4_code 48 = .ok (.lshl, 1) := by decide +kernel
theorem d8_49 : decode prog_88_method_4_code 49 = .ok (.lor, 1) := by decide +kernel
theorem d8_50 : decode prog_88_method_4_code 50 = .ok (.lstore 8, 2) := by decide +kernel
theorem d8_52 : decode prog_88_method_4_code 52 = .ok (.iinc 10 7, 3) := by decide +kernel
theorem d8_55 : decode prog_88_method_4_code 55 = .ok (.iload 11, 2) := by decide +kernel
theorem d8_57 : decode prog_88_method_4_code 57 = .ok (.ifCond .lt (-31), 3) := by decide +kernel
set_option maxRecDepth 65536 in
set_option maxHeartbeats 40000000 in
theorem in26 {p : Program} {l : Launch} {e : Env} {s : State} {m : MethodId} {args : Array Value} {below : List Frame} {meth : Method} {c : Code} {Z : State} {a0 : Array Value} {G : State → Prop} (hG : ∀ S S', (∀ t, Steps p.tables e below S' t → Steps p.tables e below S t) → G S' → G S) (hx : p.tables.exec = Jvm.exec) (hZ : Z.Warmed39 s.vm) (hw : ∀ d ∈ tables_1, d.before a0 Z = true) (hby : c.code = prog_88_method_4_code) (hml : c.maxLocals = 14) (hown : s.vm.findClass "com/example/fourfold/fourfold/xdr/FragmentMap" = some m.cls) (a : Addr) (of : Int64) (b : Addr) (sv : Int64) (sz : Int32) (em : Int64) (f : Nat → Int32) (nn : Nat) (at_ : Int64) (bf_ : Int64) (V0 : Nat) (pe : Nat) (s12 : Slot) (s13 : Slot) (h : Heap) : ∀ (bs : List Int32), ∀ (T : State) (lo : List Loc) (ij : Int32) (vl : Int64) (sh : Int32) (bx : Int32) (pj : Nat) (u : Nat) (low : Nat) (sk : Nat) (X : Stand p l e ({ frames := 0, cells := 0, slots := 0, locals := 0 } : Room) s m args below meth c T lo 0 0) (eT : T.heap = h) (O0 : Obj Z h a "com/example/fourfold/fourfold/xdr/FragmentMap" sch_fm [(.ref b), (.long sv), (.int sz), (.long em)]) (F0 : FA Z h b .byte nn (fun i => .int (f i))) (hij : ij.toInt = (pj : Int)) (hfb : ∀ j, j < bs.length → f (pj + j) = bs.getD j 0) (hEu : Enc u bs) (hval : vl.toInt = (low : Int)) (hsh : sh.toInt = (sk : Int)) (hlow : low < 2 ^ sk) (hV : V0 = low + u * 2 ^ sk) (hsk : sk + 7 * bs.length ≤ 35) (hpe : pj + bs.length = pe) (hpn : pe ≤ nn) (hnn : nn ≤ 1000) (kk : ∀ (T' : State) (vx : Int64) (sx bx : Int32) (ix : Int32), Stand p l e ({ frames := 0, cells := 0, slots := 0, locals := 0 } : Room) s m args below meth c T' lo 0 0 → T'.heap = h → vx.toInt = (V0 : Int) → ix.toInt = ((pe : Nat) : Int) → G (T'.setTop (mkF m 60 #[.val (.ref a), .val (.long of), .second, .val (.long at_), .second, .val (.long bf_), .second, .val (.int ix), .val (.long vx), .second, .val (.int sx), .val (.int bx), s12, s13] []))), G (T.setTop (mkF m 26 #[.val (.ref a), .val (.long of), .second, .val (.long at_), .second, .val (.long bf_), .second, .val (.int ij), .val (.long vl), .second, .val (.int sh), .val (.int bx), s12, s13] [])) := by
  intro bs
  induction bs with
  | nil =>
    intro T lo ij vl sh bx pj u low sk X eT O0 F0 hij hfb hEu hval hsh hlow hV hsk hpe hpn hnn kk
    exact absurd hEu (by simp [Enc])
  | cons b0 bs ih =>
    intro T lo ij vl sh bx pj u low sk X eT O0 F0 hij hfb hEu hval hsh hlow hV hsk hpe hpn hnn kk
    have hf0 : f pj = b0 := by simpa using hfb 0 (by simp)
    have hb31 : pj < 2147483647 := by simp only [List.length_cons] at hpe; omega
    have hs28 : sk ≤ 28 := by simp only [List.length_cons] at hsk; omega
    rcases hEu with ⟨hu0, hb0, rfl⟩ | ⟨hu0, hb0, hE1⟩
    · have hsg : ¬ (f pj) < (0 : Int32) := by rw [hf0]; exact byte_ge hb0
      show G (T.setTop (mkF m 26 #[.val (.ref a), .val (.long of), .second, .val (.long at_), .second, .val (.long bf_), .second, .val (.int ij), .val (.long vl), .second, .val (.int sh), .val (.int bx), s12, s13] []))
      refine hG _ _ (fun _ k => XS.aloadN X.here hx rfl (hb hby d8_26) rfl rfl k) ?_
      show G (T.setTop (mkF m 27 #[.val (.ref a), .val (.long of), .second, .val (.long at_), .second, .val (.long bf_), .second, .val (.int ij), .val (.long vl), .second, .val (.int sh), .val (.int bx), s12, s13] [(.ref a)]))
      obtain ⟨T1, X1, e1, st1⟩ := getF X hx hZ hown (host := "") (Or.inl (hw _ (List.mem_of_getElem? (i := 14) rfl))) Via.refl eT (O0.fld 0 rfl rfl) (g := (mkF m 27 #[.val (.ref a), .val (.long of), .second, .val (.long at_), .second, .val (.long bf_), .second, .val (.int ij), .val (.long vl), .second, .val (.int sh), .val (.int bx), s12, s13] [(.ref a)])) rfl rfl (hb hby d8_27)
      refine hG _ _ (st1) ?_
      show G (T1.setTop (mkF m 30 #[.val (.ref a), .val (.long of), .second, .val (.long at_), .second, .val (.long bf_), .second, .val (.int ij), .val (.long vl), .second, .val (.int sh), .val (.int bx), s12, s13] [(.ref b)]))
      refine hG _ _ (fun _ k => XS.iload X1.here hx rfl (hb hby d8_30) rfl k) ?_
      show G (T1.setTop (mkF m 32 #[.val (.ref a), .val (.long of), .second, .val (.long at_), .second, .val (.long bf_), .second, .val (.int ij), .val (.long vl), .second, .val (.int sh), .val (.int bx), s12, s13] [(.int ij), (.ref b)]))
      refine hG _ _ (fun _ k => XS.iinc X1.here hx rfl (hb hby d8_32) rfl (l' := #[.val (.ref a), .val (.long of), .second, .val (.long at_), .second, .val (.long bf_), .second, .val (.int (ij + (1 : Int32))), .val (.long vl), .second, .val (.int sh), .val (.int bx), s12, s13]) rfl k) ?_
      show G (T1.setTop (mkF m 35 #[.val (.ref a), .val (.long of), .second, .val (.long at_), .second, .val (.long bf_), .second, .val (.int (ij + (1 : Int32))), .val (.long vl), .second, .val (.int sh), .val (.int bx), s12, s13] [(.int ij), (.ref b)]))
      refine hG _ _ (own_baload X1 hx hZ e1 F0 pj hij (by simp only [List.length_cons] at hpe; omega) rfl (g := (mkF m 35 #[.val (.ref a), .val (.long of), .second, .val (.long at_), .second, .val (.long bf_), .second, .val (.int (ij + (1 : Int32))), .val (.long vl), .second, .val (.int sh), .val (.int bx), s12, s13] [(.int ij), (.ref b)])) rfl rfl (hb hby d8_35)) ?_
      show G (T1.setTop (mkF m 36 #[.val (.ref a), .val (.long of), .second, .val (.long at_), .second, .val (.long bf_), .second, .val (.int (ij + (1 : Int32))), .val (.long vl), .second, .val (.int sh), .val (.int bx), s12, s13] [(.int (f pj))]))
      refine hG _ _ (fun _ k => XS.istore X1.here hx rfl (hb hby d8_36) rfl (l' := #[.val (.ref a), .val (.long of), .second, .val (.long at_), .second, .val (.long bf_), .second, .val (.int (ij + (1 : Int32))), .val (.long vl), .second, .val (.int sh), .val (.int (f pj)), s12, s13]) rfl k) ?_
      show G (T1.setTop (mkF m 38 #[.val (.ref a), .val (.long of), .second, .val (.long at_), .second, .val (.long bf_), .second, .val (.int (ij + (1 : Int32))), .val (.long vl), .second, .val (.int sh), .val (.int (f pj)), s12, s13] []))
      refine hG _ _ (fun _ k => XS.lload X1.here hx rfl (hb hby d8_38) rfl k) ?_
      show G (T1.setTop (mkF m 40 #[.val (.ref a), .val (.long of), .second, .val (.long at_), .second, .val (.long bf_), .second, .val (.int (ij + (1 : Int32))), .val (.long vl), .second, .val (.int sh), .val (.int (f pj)), s12, s13] [(.long vl)]))
      refine hG _ _ (fun _ k => XS.iload X1.here hx rfl (hb hby d8_40) rfl k) ?_
      show G (T1.setTop (mkF m 42 #[.val (.ref a), .val (.long of), .second, .val (.long at_), .second, .val (.long bf_), .second, .val (.int (ij + (1 : Int32))), .val (.long vl), .second, .val (.int sh), .val (.int (f pj)), s12, s13] [(.int (f pj)), (.long vl)]))
      refine hG _ _ (fun _ k => XS.bipush X1.here hx rfl (hb hby d8_42) k) ?_
      show G (T1.setTop (mkF m 44 #[.val (.ref a), .val (.long of), .second, .val (.long at_), .second, .val (.long bf_), .second, .val (.int (ij + (1 : Int32))), .val (.long vl), .second, .val (.int sh), .val (.int (f pj)), s12, s13] [(.int (127 : Int32)), (.int (f pj)), (.long vl)]))
      refine hG _ _ (fun _ k => XS.iand X1.here hx rfl (hb hby d8_44) rfl k) ?_
      show G (T1.setTop (mkF m 45 #[.val (.ref a), .val (.long of), .second, .val (.long at_), .second, .val (.long bf_), .second, .val (.int (ij + (1 : Int32))), .val (.long vl), .second, .val (.int sh), .val (.int (f pj)), s12, s13] [(.int ((f pj) &&& (127 : Int32))), (.long vl)]))
      refine hG _ _ (fun _ k => XS.i2l X1.here hx rfl (hb hby d8_45) rfl k) ?_
      show G (T1.setTop (mkF m 46 #[.val (.ref a), .val (.long of), .second, .val (.long at_), .second, .val (.long bf_), .second, .val (.int (ij + (1 : Int32))), .val (.long vl), .second, .val (.int sh), .val (.int (f pj)), s12, s13] [(.long (((f pj) &&& (127 : Int32)).toInt64)), (.long vl)]))
      refine hG _ _ (fun _ k => XS.iload X1.here hx rfl (hb hby d8_46) rfl k) ?_
      show G (T1.setTop (mkF m 48 #[.val (.ref a), .val (.long of), .second, .val (.long at_), .second, .val (.long bf_), .second, .val (.int (ij + (1 : Int32))), .val (.long vl), .second, .val (.int sh), .val (.int (f pj)), s12, s13] [(.int sh), (.long (((f pj) &&& (127 : Int32)).toInt64)), (.long vl)]))
      refine hG _ _ (fun _ k => XS.lshl X1.here hx rfl (hb hby d8_48) rfl k) ?_
      show G (T1.setTop (mkF m 49 #[.val (.ref a), .val (.long of), .second, .val (.long at_), .second, .val (.long bf_), .second, .val (.int (ij + (1 : Int32))), .val (.long vl), .second, .val (.int sh), .val (.int (f pj)), s12, s13] [(.long ((((f pj) &&& (127 : Int32)).toInt64) <<< (sh &&& 0x3f).toInt64)), (.long vl)]))
      refine hG _ _ (fun _ k => XS.lor X1.here hx rfl (hb hby d8_49) rfl k) ?_
      show G (T1.setTop (mkF m 50 #[.val (.ref a), .val (.long of), .second, .val (.long at_), .second, .val (.long bf_), .second, .val (.int (ij + (1 : Int32))), .val (.long vl), .second, .val (.int sh), .val (.int (f pj)), s12, s13] [(.long (vl ||| ((((f pj) &&& (127 : Int32)).toInt64) <<< (sh &&& 0x3f).toInt64)))]))
      refine hG _ _ (fun _ k => XS.lstore X1.here hx rfl (hb hby d8_50) rfl (l' := #[.val (.ref a), .val (.long of), .second, .val (.long at_), .second, .val (.long bf_), .second, .val (.int (ij + (1 : Int32))), .val (.long (vl ||| ((((f pj) &&& (127 : Int32)).toInt64) <<< (sh &&& 0x3f).toInt64))), .second, .val (.int sh), .val (.int (f pj)), s12, s13]) rfl k) ?_
      show G (T1.setTop (mkF m 52 #[.val (.ref a), .val (.long of), .second, .val (.long at_), .second, .val (.long bf_), .second, .val (.int (ij + (1 : Int32))), .val (.long (vl ||| ((((f pj) &&& (127 : Int32)).toInt64) <<< (sh &&& 0x3f).toInt64))), .second, .val (.int sh), .val (.int (f pj)), s12, s13] []))
      refine hG _ _ (fun _ k => XS.iinc X1.here hx rfl (hb hby d8_52) rfl (l' := #[.val (.ref a), .val (.long of), .second, .val (.long at_), .second, .val (.long bf_), .second, .val (.int (ij + (1 : Int32))), .val (.long (vl ||| ((((f pj) &&& (127 : Int32)).toInt64) <<< (sh &&& 0x3f).toInt64))), .second, .val (.int (sh + (7 : Int32))), .val (.int (f pj)), s12, s13]) rfl k) ?_
      show G (T1.setTop (mkF m 55 #[.val (.ref a), .val (.long of), .second, .val (.long at_), .second, .val (.long bf_), .second, .val (.int (ij + (1 : Int32))), .val (.long (vl ||| ((((f pj) &&& (127 : Int32)).toInt64) <<< (sh &&& 0x3f).toInt64))), .second, .val (.int (sh + (7 : Int32))), .val (.int (f pj)), s12, s13] []))
      refine hG _ _ (fun _ k => XS.iload X1.here hx rfl (hb hby d8_55) rfl k) ?_
      show G (T1.setTop (mkF m 57 #[.val (.ref a), .val (.long of), .second, .val (.long at_), .second, .val (.long bf_), .second, .val (.int (ij + (1 : Int32))), .val (.long (vl ||| ((((f pj) &&& (127 : Int32)).toInt64) <<< (sh &&& 0x3f).toInt64))), .second, .val (.int (sh + (7 : Int32))), .val (.int (f pj)), s12, s13] [(.int (f pj))]))
      refine hG _ _ (fun _ k => XS.ifNo X1.here hx rfl (hb hby d8_57) rfl ((if0 _ _).trans (flt hsg).1) k) ?_
      show G (T1.setTop (mkF m 60 #[.val (.ref a), .val (.long of), .second, .val (.long at_), .second, .val (.long bf_), .second, .val (.int (ij + (1 : Int32))), .val (.long (vl ||| ((((f pj) &&& (127 : Int32)).toInt64) <<< (sh &&& 0x3f).toInt64))), .second, .val (.int (sh + (7 : Int32))), .val (.int (f pj)), s12, s13] []))
      exact kk T1 (vl ||| ((((f pj) &&& (127 : Int32)).toInt64) <<< (sh &&& 0x3f).toInt64)) (sh + (7 : Int32)) (f pj) (ij + (1 : Int32)) X1 e1 (dec_last hval hsh hlow hs28 hf0 hb0 hu0 hV) (inc_last hij hb31 hpe)
    · have hsg : (f pj) < (0 : Int32) := by rw [hf0]; exact byte_lt hb0
      show G (T.setTop (mkF m 26 #[.val (.ref a), .val (.long of), .second, .val (.long at_), .second, .val (.long bf_), .second, .val (.int ij), .val (.long vl), .second, .val (.int sh), .val (.int bx), s12, s13] []))
      refine hG _ _ (fun _ k => XS.aloadN X.here hx rfl (hb hby d8_26) rfl rfl k) ?_
      show G (T.setTop (mkF m 27 #[.val (.ref a), .val (.long of), .second, .val (.long at_), .second, .val (.long bf_), .second, .val (.int ij), .val (.long vl), .second, .val (.int sh), .val (.int bx), s12, s13] [(.ref a)]))
      obtain ⟨T2, X2, e2, st2⟩ := getF X hx hZ hown (host := "") (Or.inl (hw _ (List.mem_of_getElem? (i := 14) rfl))) Via.refl eT (O0.fld 0 rfl rfl) (g := (mkF m 27 #[.val (.ref a), .val (.long of), .second, .val (.long at_), .second, .val (.long bf_), .second, .val (.int ij), .val (.long vl), .second, .val (.int sh), .val (.int bx), s12, s13] [(.ref a)])) rfl rfl (hb hby d8_27)
      refine hG _ _ (st2) ?_
      show G (T2.setTop (mkF m 30 #[.val (.ref a), .val (.long of), .second, .val (.long at_), .second, .val (.long bf_), .second, .val (.int ij), .val (.long vl), .second, .val (.int sh), .val (.int bx), s12, s13] [(.ref b)]))
      refine hG _ _ (fun _ k => XS.iload X2.here hx rfl (hb hby d8_30) rfl k) ?_
      show G (T2.setTop (mkF m 32 #[.val (.ref a), .val (.long of), .second, .val (.long at_), .second, .val (.long bf_), .second, .val (.int ij), .val (.long vl), .second, .val (.int sh), .val (.int bx), s12, s13] [(.int ij), (.ref b)]))
      refine hG _ _ (fun _ k => XS.iinc X2.here hx rfl (hb hby d8_32) rfl (l' := #[.val (.ref a), .val (.long of), .second, .val (.long at_), .second, .val (.long bf_), .second, .val (.int (ij + (1 : Int32))), .val (.long vl), .second, .val (.int sh), .val (.int bx), s12, s13]) rfl k) ?_
      show G (T2.setTop (mkF m 35 #[.val (.ref a), .val (.long of), .second, .val (.long at_), .second, .val (.long bf_), .second, .val (.int (ij + (1 : Int32))), .val (.long vl), .second, .val (.int sh), .val (.int bx), s12, s13] [(.int ij), (.ref b)]))
      refine hG _ _ (own_baload X2 hx hZ e2 F0 pj hij (by simp only [List.length_cons] at hpe; omega) rfl (g := (mkF m 35 #[.val (.ref a), .val (.long of), .second, .val (.long at_), .second, .val (.long bf_), .second, .val (.int (ij + (1 : Int32))), .val (.long vl), .second, .val (.int sh), .val (.int bx), s12, s13] [(.int ij), (.ref b)])) rfl rfl (hb hby d8_35)) ?_
      show G (T2.setTop (mkF m 36 #[.val (.ref a), .val (.long of), .second, .val (.long at_), .second, .val (.long bf_), .second, .val (.int (ij + (1 : Int32))), .val (.long vl), .second, .val (.int sh), .val (.int bx), s12, s13] [(.int (f pj))]))
      refine hG _ _ (fun _ k => XS.istore X2.here hx rfl (hb hby d8_36) rfl (l' := #[.val (.ref a), .val (.long of), .second, .val (.long at_), .second, .val (.long bf_), .second, .val (.int (ij + (1 : Int32))), .val (.long vl), .second, .val (.int sh), .val (.int (f pj)), s12, s13]) rfl k) ?_
      show G (T2.setTop (mkF m 38 #[.val (.ref a), .val (.long of), .second, .val (.long at_), .second, .val (.long bf_), .second, .val (.int (ij + (1 : Int32))), .val (.long vl), .second, .val (.int sh), .val (.int (f pj)), s12, s13] []))
      refine hG _ _ (fun _ k => XS.lload X2.here hx rfl (hb hby d8_38) rfl k) ?_
      show G (T2.setTop (mkF m 40 #[.val (.ref a), .val (.long of), .second, .val (.long at_), .second, .val (.long bf_), .second, .val (.int (ij + (1 : Int32))), .val (.long vl), .second, .val (.int sh), .val (.int (f pj)), s12, s13] [(.long vl)]))
      refine hG _ _ (fun _ k => XS.iload X2.here hx rfl (hb hby d8_40) rfl k) ?_
      show G (T2.setTop (mkF m 42 #[.val (.ref a), .val (.long of), .second, .val (.long at_), .second, .val (.long bf_), .second, .val (.int (ij + (1 : Int32))), .val (.long vl), .second, .val (.int sh), .val (.int (f pj)), s12, s13] [(.int (f pj)), (.long vl)]))
      refine hG _ _ (fun _ k => XS.bipush X2.here hx rfl (hb hby d8_42) k) ?_
      show G (T2.setTop (mkF m 44 #[.val (.ref a), .val (.long of), .second, .val (.long at_), .second, .val (.long bf_), .second, .val (.int (ij + (1 : Int32))), .val (.long vl), .second, .val (.int sh), .val (.int (f pj)), s12, s13] [(.int (127 : Int32)), (.int (f pj)), (.long vl)]))
      refine hG _ _ (fun _ k => XS.iand X2.here hx rfl (hb hby d8_44) rfl k) ?_
      show G (T2.setTop (mkF m 45 #[.val (.ref a), .val (.long of), .second, .val (.long at_), .second, .val (.long bf_), .second, .val (.int (ij + (1 : Int32))), .val (.long vl), .second, .val (.int sh), .val (.int (f pj)), s12, s13] [(.int ((f pj) &&& (127 : Int32))), (.long vl)]))
      refine hG _ _ (fun _ k => XS.i2l X2.here hx rfl (hb hby d8_45) rfl k) ?_
      show G (T2.setTop (mkF m 46 #[.val (.ref a), .val (.long of), .second, .val (.long at_), .second, .val (.long bf_), .second, .val (.int (ij + (1 : Int32))), .val (.long vl), .second, .val (.int sh), .val (.int (f pj)), s12, s13] [(.long (((f pj) &&& (127 : Int32)).toInt64)), (.long vl)]))
      refine hG _ _ (fun _ k => XS.iload X2.here hx rfl (hb hby d8_46) rfl k) ?_
      show G (T2.setTop (mkF m 48 #[.val (.ref a), .val (.long of), .second, .val (.long at_), .second, .val (.long bf_), .second, .val (.int (ij + (1 : Int32))), .val (.long vl), .second, .val (.int sh), .val (.int (f pj)), s12, s13] [(.int sh), (.long (((f pj) &&& (127 : Int32)).toInt64)), (.long vl)]))
      refine hG _ _ (fun _ k => XS.lshl X2.here hx rfl (hb hby d8_48) rfl k) ?_
      show G (T2.setTop (mkF m 49 #[.val (.ref a), .val (.long of), .second, .val (.long at_), .second, .val (.long bf_), .second, .val (.int (ij + (1 : Int32))), .val (.long vl), .second, .val (.int sh), .val (.int (f pj)), s12, s13] [(.long ((((f pj) &&& (127 : Int32)).toInt64) <<< (sh &&& 0x3f).toInt64)), (.long vl)]))
      refine hG _ _ (fun _ k => XS.lor X2.here hx rfl (hb hby d8_49) rfl k) ?_
      show G (T2.setTop (mkF m 50 #[.val (.ref a), .val (.long of), .second, .val (.long at_), .second, .val (.long bf_), .second, .val (.int (ij + (1 : Int32))), .val (.long vl), .second, .val (.int sh), .val (.int (f pj)), s12, s13] [(.long (vl ||| ((((f pj) &&& (127 : Int32)).toInt64) <<< (sh &&& 0x3f).toInt64)))]))
      refine hG _ _ (fun _ k => XS.lstore X2.here hx rfl (hb hby d8_50) rfl (l' := #[.val (.ref a), .val (.long of), .second, .val (.long at_), .second, .val (.long bf_), .second, .val (.int (ij + (1 : Int32))), .val (.long (vl ||| ((((f pj) &&& (127 : Int32)).toInt64) <<< (sh &&& 0x3f).toInt64))), .second, .val (.int sh), .val (.int (f pj)), s12, s13]) rfl k) ?_
      show G (T2.setTop (mkF m 52 #[.val (.ref a), .val (.long of), .second, .val (.long at_), .second, .val (.long bf_), .second, .val (.int (ij + (1 : Int32))), .val (.long (vl ||| ((((f pj) &&& (127 : Int32)).toInt64) <<< (sh &&& 0x3f).toInt64))), .second, .val (.int sh), .val (.int (f pj)), s12, s13] []))
      refine hG _ _ (fun _ k => XS.iinc X2.here hx rfl (hb hby d8_52) rfl (l' := #[.val (.ref a), .val (.long of), .second, .val (.long at_), .second, .val (.long bf_), .second, .val (.int (ij + (1 : Int32))), .val (.long (vl ||| ((((f pj) &&& (127 : Int32)).toInt64) <<< (sh &&& 0x3f).toInt64))), .second, .val (.int (sh + (7 : Int32))), .val (.int (f pj)), s12, s13]) rfl k) ?_
      show G (T2.setTop (mkF m 55 #[.val (.ref a), .val (.long of), .second, .val (.long at_), .second, .val (.long bf_), .second, .val (.int (ij + (1 : Int32))), .val (.long (vl ||| ((((f pj) &&& (127 : Int32)).toInt64) <<< (sh &&& 0x3f).toInt64))), .second, .val (.int (sh + (7 : Int32))), .val (.int (f pj)), s12, s13] []))
      refine hG _ _ (fun _ k => XS.iload X2.here hx rfl (hb hby d8_55) rfl k) ?_
      show G (T2.setTop (mkF m 57 #[.val (.ref a), .val (.long of), .second, .val (.long at_), .second, .val (.long bf_), .second, .val (.int (ij + (1 : Int32))), .val (.long (vl ||| ((((f pj) &&& (127 : Int32)).toInt64) <<< (sh &&& 0x3f).toInt64))), .second, .val (.int (sh + (7 : Int32))), .val (.int (f pj)), s12, s13] [(.int (f pj))]))
      refine hG _ _ (fun _ k => XS.ifYes X2.here hx rfl (pc0 := 57) (pc' := 26) rfl (hb hby d8_57) rfl ((if0 _ _).trans (tlt hsg).1) (by decide) (by decide) k) ?_
      show G (T2.setTop (mkF m 26 #[.val (.ref a), .val (.long of), .second, .val (.long at_), .second, .val (.long bf_), .second, .val (.int (ij + (1 : Int32))), .val (.long (vl ||| ((((f pj) &&& (127 : Int32)).toInt64) <<< (sh &&& 0x3f).toInt64))), .second, .val (.int (sh + (7 : Int32))), .val (.int (f pj)), s12, s13] []))
      exact ih T2 lo (ij + (1 : Int32)) (vl ||| ((((f pj) &&& (127 : Int32)).toInt64) <<< (sh &&& 0x3f).toInt64)) (sh + (7 : Int32)) (f pj) (pj + 1) (u / 128) (low + (u % 128) * 2 ^ sk) (sk + 7) X2 e2 O0 F0 (inc_mid hij hb31) (fun j hj => by have := hfb (j + 1) (by simp; omega); simp only [List.getD_cons_succ] at this; rw [← this]; congr 1; omega) hE1 (dec_mid hval hsh hlow hs28 hf0 hb0) (sh_mid hsh hs28) (low_mid hlow) (dec_V hV) (by simp only [List.length_cons] at hsk; omega) (by simp only [List.length_cons] at hpe; omega) hpn hnn kk
set_option maxRecDepth 65536 in
set_option maxHeartbeats 40000000 in
theorem in26u {p : Program} {l : Launch} {e : Env} {s : State} {m : MethodId} {args : Array Value} {below : List Frame} {meth : Method} {c : Code} {Z : State} {a0 : Array Value} {G : State → Prop} (hG : ∀ S S', (∀ t, Steps p.tables e below S' t → Steps p.tables e below S t) → G S' → G S) (hx : p.tables.exec = Jvm.exec) (hZ : Z.Warmed39 s.vm) (hw : ∀ d ∈ tables_1, d.before a0 Z = true) (hby : c.code = prog_88_method_4_code) (hml : c.maxLocals = 14) (hown : s.vm.findClass "com/example/fourfold/fourfold/xdr/FragmentMap" = some m.cls) (a : Addr) (of : Int64) (b : Addr) (sv : Int64) (sz : Int32) (em : Int64) (f : Nat → Int32) (nn : Nat) (at_ : Int64) (bf_ : Int64) (V0 : Nat) (pe : Nat) (s12 : Slot) (s13 : Slot) (b0 : Int32) (bs : List Int32) (h : Heap) : ∀ (T : State) (lo : List Loc) (ij : Int32) (vl : Int64) (sh : Int32) (pj : Nat) (u : Nat) (low : Nat) (sk : Nat) (X : Stand p l e ({ frames := 0, cells := 0, slots := 0, locals := 0 } : Room) s m args below meth c T lo 0 0) (eT : T.heap = h) (O0 : Obj Z h a "com/example/fourfold/fourfold/xdr/FragmentMap" sch_fm [(.ref b), (.long sv), (.int sz), (.long em)]) (F0 : FA Z h b .byte nn (fun i => .int (f i))) (hij : ij.toInt = (pj : Int)) (hfb : ∀ j, j < (b0 :: bs).length → f (pj + j) = (b0 :: bs).getD j 0) (hEu : Enc u (b0 :: bs)) (hval : vl.toInt = (low : Int)) (hsh : sh.toInt = (sk : Int)) (hlow : low < 2 ^ sk) (hV : V0 = low + u * 2 ^ sk) (hsk : sk + 7 * (b0 :: bs).length ≤ 35) (hpe : pj + (b0 :: bs).length = pe) (hpn : pe ≤ nn) (hnn : nn ≤ 1000) (kk : ∀ (T' : State) (vx : Int64) (sx bx : Int32) (ix : Int32), Stand p l e ({ frames := 0, cells := 0, slots := 0, locals := 0 } : Room) s m args below meth c T' lo 0 0 → T'.heap = h → vx.toInt = (V0 : Int) → ix.toInt = ((pe : Nat) : Int) → G (T'.setTop (mkF m 60 #[.val (.ref a), .val (.long of), .second, .val (.long at_), .second, .val (.long bf_), .second, .val (.int ix), .val (.long vx), .second, .val (.int sx), .val (.int bx), s12, s13] []))), G (T.setTop (mkF m 26 #[.val (.ref a), .val (.long of), .second, .val (.long at_), .second, .val (.long bf_), .second, .val (.int ij), .val (.long vl), .second, .val (.int sh), .unset, s12, s13] [])) := by
  intro T lo ij vl sh pj u low sk X eT O0 F0 hij hfb hEu hval hsh hlow hV hsk hpe hpn hnn kk
  have hf0 : f pj = b0 := by simpa using hfb 0 (by simp)
  have hb31 : pj < 2147483647 := by simp only [List.length_cons] at hpe; omega
  have hs28 : sk ≤ 28 := by simp only [List.length_cons] at hsk; omega
  rcases hEu with ⟨hu0, hb0, rfl⟩ | ⟨hu0, hb0, hE1⟩
  · have hsg : ¬ (f pj) < (0 : Int32) := by rw [hf0]; exact byte_ge hb0
    show G (T.setTop (mkF m 26 #[.val (.ref a), .val (.long of), .second, .val (.long at_), .second, .val (.long bf_), .second, .val (.int ij), .val (.long vl), .second, .val (.int sh), .unset, s12, s13] []))
    refine hG _ _ (fun _ k => XS.aloadN X.here hx rfl (hb hby d8_26) rfl rfl k) ?_
    show G (T.setTop (mkF m 27 #[.val (.ref a), .val (.long of), .second, .val (.long at_), .second, .val (.long bf_), .second, .val (.int ij), .val (.long vl), .second, .val (.int sh), .unset, s12, s13] [(.ref a)]))
    obtain ⟨T1, X1, e1, st1⟩ := getF X hx hZ hown (host := "") (Or.inl (hw _ (List.mem_of_getElem? (i := 14) rfl))) Via.refl eT (O0.fld 0 rfl rfl) (g := (mkF m 27 #[.val (.ref a), .val (.long of), .second, .val (.long at_), .second, .val (.long bf_), .second, .val (.int ij), .val (.long vl), .second, .val (.int sh), .unset, s12, s13] [(.ref a)])) rfl rfl (hb hby d8_27)
    refine hG _ _ (st1) ?_
    show G (T1.setTop (mkF m 30 #[.val (.ref a), .val (.long of), .second, .val (.long at_), .second, .val (.long bf_), .second, .val (.int ij), .val (.long vl), .second, .val (.int sh), .unset, s12, s13] [(.ref b)]))
    refine hG _ _ (fun _ k => XS.iload X1.here hx rfl (hb hby d8_30) rfl k) ?_
    show G (T1.setTop (mkF m 32 #[.val (.ref a), .val (.long of), .second, .val (.long at_), .second, .val (.long bf_), .second, .val (.int ij), .val (.long vl), .second, .val (.int sh), .unset, s12, s13] [(.int ij), (.ref b)]))
    refine hG _ _ (fun _ k => XS.iinc X1.here hx rfl (hb hby d8_32) rfl (l' := #[.val (.ref a), .val (.long of), .second, .val (.long at_), .second, .val (.long bf_), .second, .val (.int (ij + (1 : Int32))), .val (.long vl), .second, .val (.int sh), .unset, s12, s13]) rfl k) ?_
    show G (T1.setTop (mkF m 35 #[.val (.ref a), .val (.long of), .second, .val (.long at_), .second, .val (.long bf_), .second, .val (.int (ij + (1 : Int32))), .val (.long vl), .second, .val (.int sh), .unset, s12, s13] [(.int ij), (.ref b)]))
    refine hG _ _ (own_baload X1 hx hZ e1 F0 pj hij (by simp only [List.length_cons] at hpe; omega) rfl (g := (mkF m 35 #[.val (.ref a), .val (.long of), .second, .val (.long at_), .second, .val (.long bf_), .second, .val (.int (ij + (1 : Int32))), .val (.long vl), .second, .val (.int sh), .unset, s12, s13] [(.int ij), (.ref b)])) rfl rfl (hb hby d8_35)) ?_
    show G (T1.setTop (mkF m 36 #[.val (.ref a), .val (.long of), .second, .val (.long at_), .second, .val (.long bf_), .second, .val (.int (ij + (1 : Int32))), .val (.long vl), .second, .val (.int sh), .unset, s12, s13] [(.int (f pj))]))
    refine hG _ _ (fun _ k => XS.istore X1.here hx rfl (hb hby d8_36) rfl (l' := #[.val (.ref a), .val (.long of), .second, .val (.long at_), .second, .val (.long bf_), .second, .val (.int (ij + (1 : Int32))), .val (.long vl), .second, .val (.int sh), .val (.int (f pj)), s12, s13]) rfl k) ?_
    show G (T1.setTop (mkF m 38 #[.val (.ref a), .val (.long of), .second, .val (.long at_), .second, .val (.long bf_), .second, .val (.int (ij + (1 : Int32))), .val (.long vl), .second, .val (.int sh), .val (.int (f pj)), s12, s13] []))
    refine hG _ _ (fun _ k => XS.lload X1.here hx rfl (hb hby d8_38) rfl k) ?_
    show G (T1.setTop (mkF m 40 #[.val (.ref a), .val (.long of), .second, .val (.long at_), .second, .val (.long bf_), .second, .val (.int (ij + (1 : Int32))), .val (.long vl), .second, .val (.int sh), .val (.int (f pj)), s12, s13] [(.long vl)]))
    refine hG _ _ (fun _ k => XS.iload X1.here hx rfl (hb hby d8_40) rfl k) ?_
    show G (T1.setTop (mkF m 42 #[.val (.ref a), .val (.long of), .second, .val (.long at_), .second, .val (.long bf_), .second, .val (.int (ij + (1 : Int32))), .val (.long vl), .second, .val (.int sh), .val (.int (f pj)), s12, s13] [(.int (f pj)), (.long vl)]))
    refine hG _ _ (fun _ k => XS.bipush X1.here hx rfl (hb hby d8_42) k) ?_
    show G (T1.setTop (mkF m 44 #[.val (.ref a), .val (.long of), .second, .val (.long at_), .second, .val (.long bf_), .second, .val (.int (ij + (1 : Int32))), .val (.long vl), .second, .val (.int sh), .val (.int (f pj)), s12, s13] [(.int (127 : Int32)), (.int (f pj)), (.long vl)]))
    refine hG _ _ (fun _ k => XS.iand X1.here hx rfl (hb hby d8_44) rfl k) ?_
    show G (T1.setTop (mkF m 45 #[.val (.ref a), .val (.long of), .second, .val (.long at_), .second, .val (.long bf_), .second, .val (.int (ij + (1 : Int32))), .val (.long vl), .second, .val (.int sh), .val (.int (f pj)), s12, s13] [(.int ((f pj) &&& (127 : Int32))), (.long vl)]))
    refine hG _ _ (fun _ k => XS.i2l X1.here hx rfl (hb hby d8_45) rfl k) ?_
    show G (T1.setTop (mkF m 46 #[.val (.ref a), .val (.long of), .second, .val (.long at_), .second, .val (.long bf_), .second, .val (.int (ij + (1 : Int32))), .val (.long vl), .second, .val (.int sh), .val (.int (f pj)), s12, s13] [(.long (((f pj) &&& (127 : Int32)).toInt64)), (.long vl)]))
    refine hG _ _ (fun _ k => XS.iload X1.here hx rfl (hb hby d8_46) rfl k) ?_
    show G (T1.setTop (mkF m 48 #[.val (.ref a), .val (.long of), .second, .val (.long at_), .second, .val (.long bf_), .second, .val (.int (ij + (1 : Int32))), .val (.long vl), .second, .val (.int sh), .val (.int (f pj)), s12, s13] [(.int sh), (.long (((f pj) &&& (127 : Int32)).toInt64)), (.long vl)]))
    refine hG _ _ (fun _ k => XS.lshl X1.here hx rfl (hb hby d8_48) rfl k) ?_
    show G (T1.setTop (mkF m 49 #[.val (.ref a), .val (.long of), .second, .val (.long at_), .second, .val (.long bf_), .second, .val (.int (ij + (1 : Int32))), .val (.long vl), .second, .val (.int sh), .val (.int (f pj)), s12, s13] [(.long ((((f pj) &&& (127 : Int32)).toInt64) <<< (sh &&& 0x3f).toInt64)), (.long vl)]))
    refine hG _ _ (fun _ k => XS.lor X1.here hx rfl (hb hby d8_49) rfl k) ?_
    show G (T1.setTop (mkF m 50 #[.val (.ref a), .val (.long of), .second, .val (.long at_), .second, .val (.long bf_), .second, .val (.int (ij + (1 : Int32))), .val (.long vl), .second, .val (.int sh), .val (.int (f pj)), s12, s13] [(.long (vl ||| ((((f pj) &&& (127 : Int32)).toInt64) <<< (sh &&& 0x3f).toInt64)))]))
    refine hG _ _ (fun _ k => XS.lstore X1.here hx rfl (hb hby d8_50) rfl (l' := #[.val (.ref a), .val (.long of), .second, .val (.long at_), .second, .val (.long bf_), .second, .val (.int (ij + (1 : Int32))), .val (.long (vl ||| ((((f pj) &&& (127 : Int32)).toInt64) <<< (sh &&& 0x3f).toInt64))), .second, .val (.int sh), .val (.int (f pj)), s12, s13]) rfl k) ?_
    show G (T1.setTop (mkF m 52 #[.val (.ref a), .val (.long of), .second, .val (.long at_), .second, .val (.long bf_), .second, .val (.int (ij + (1 : Int32))), .val (.long (vl ||| ((((f pj) &&& (127 : Int32)).toInt64) <<< (sh &&& 0x3f).toInt64))), .second, .val (.int sh), .val (.int (f pj)), s12, s13] []))
    refine hG _ _ (fun _ k => XS.iinc X1.here hx rfl (hb hby d8_52) rfl (l' := #[.val (.ref a), .val (.long of), .second, .val (.long at_), .second, .val (.long bf_), .second, .val (.int (ij + (1 : Int32))), .val (.long (vl ||| ((((f pj) &&& (127 : Int32)).toInt64) <<< (sh &&& 0x3f).toInt64))), .second, .val (.int (sh + (7 : Int32))), .val (.int (f pj)), s12, s13]) rfl k) ?_
    show G (T1.setTop (mkF m 55 #[.val (.ref a), .val (.long of), .second, .val (.long at_), .second, .val (.long bf_), .second, .val (.int (ij + (1 : Int32))), .val (.long (vl ||| ((((f pj) &&& (127 : Int32)).toInt64) <<< (sh &&& 0x3f).toInt64))), .second, .val (.int (sh + (7 : Int32))), .val (.int (f pj)), s12, s13] []))
    refine hG _ _ (fun _ k => XS.iload X1.here hx rfl (hb hby d8_55) rfl k) ?_
    show G (T1.setTop (mkF m 57 #[.val (.ref a), .val (.long of), .second, .val (.long at_), .second, .val (.long bf_), .second, .val (.int (ij + (1 : Int32))), .val (.long (vl ||| ((((f pj) &&& (127 : Int32)).toInt64) <<< (sh &&& 0x3f).toInt64))), .second, .val (.int (sh + (7 : Int32))), .val (.int (f pj)), s12, s13] [(.int (f pj))]))
    refine hG _ _ (fun _ k => XS.ifNo X1.here hx rfl (hb hby d8_57) rfl ((if0 _ _).trans (flt hsg).1) k) ?_
    show G (T1.setTop (mkF m 60 #[.val (.ref a), .val (.long of), .second, .val (.long at_), .second, .val (.long bf_), .second, .val (.int (ij + (1 : Int32))), .val (.long (vl ||| ((((f pj) &&& (127 : Int32)).toInt64) <<< (sh &&& 0x3f).toInt64))), .second, .val (.int (sh + (7 : Int32))), .val (.int (f pj)), s12, s13] []))
    exact kk T1 (vl ||| ((((f pj) &&& (127 : Int32)).toInt64) <<< (sh &&& 0x3f).toInt64)) (sh + (7 : Int32)) (f pj) (ij + (1 : Int32)) X1 e1 (dec_last hval hsh hlow hs28 hf0 hb0 hu0 hV) (inc_last hij hb31 hpe)
  · have hsg : (f pj) < (0 : Int32) := by rw [hf0]; exact byte_lt hb0
    show G (T.setTop (mkF m 26 #[.val (.ref a), .val (.long of), .second, .val (.long at_), .second, .val (.long bf_), .second, .val (.int ij), .val (.long vl), .second, .val (.int sh), .unset, s12, s13] []))
    refine hG _ _ (fun _ k => XS.aloadN X.here hx rfl (hb hby d8_26) rfl rfl k) ?_
    show G (T.setTop (mkF m 27 #[.val (.ref a), .val (.long of), .second, .val (.long at_), .second, .val (.long bf_), .second, .val (.int ij), .val (.long vl), .second, .val (.int sh), .unset, s12, s13] [(.ref a)]))
    obtain ⟨T2, X2, e2, st2⟩ := getF X hx hZ hown (host := "") (Or.inl (hw _ (List.mem_of_getElem? (i := 14) rfl))) Via.refl eT (O0.fld 0 rfl rfl) (g := (mkF m 27 #[.val (.ref a), .val (.long of), .second, .val (.long at_), .second, .val (.long bf_), .second, .val (.int ij), .val (.long vl), .second, .val (.int sh), .unset, s12, s13] [(.ref a)])) rfl rfl (hb hby d8_27)
    refine hG _ _ (st2) ?_
    show G (T2.setTop (mkF m 30 #[.val (.ref a), .val (.long of), .second, .val (.long at_), .second, .val (.long bf_), .second, .val (.int ij), .val (.long vl), .second, .val (.int sh), .unset, s12, s13] [(.ref b)]))
    refine hG _ _ (fun _ k => XS.iload X2.here hx rfl (hb hby d8_30) rfl k) ?_
    show G (T2.setTop (mkF m 32 #[.val (.ref a), .val (.long of), .second, .val (.long at_), .second, .val (.long bf_), .second, .val (.int ij), .val (.long vl), .second, .val (.int sh), .unset, s12, s13] [(.int ij), (.ref b)]))
    refine hG _ _ (fun _ k => XS.iinc X2.here hx rfl (hb hby d8_32) rfl (l' := #[.val (.ref a), .val (.long of), .second, .val (.long at_), .second, .val (.long bf_), .second, .val (.int (ij + (1 : Int32))), .val (.long vl), .second, .val (.int sh), .unset, s12, s13]) rfl k) ?_
    show G (T2.setTop (mkF m 35 #[.val (.ref a), .val (.long of), .second, .val (.long at_), .second, .val (.long bf_), .second, .val (.int (ij + (1 : Int32))), .val (.long vl), .second, .val (.int sh), .unset, s12, s13] [(.int ij), (.ref b)]))
    refine hG _ _ (own_baload X2 hx hZ e2 F0 pj hij (by simp only [List.length_cons] at hpe; omega) rfl (g := (mkF m 35 #[.val (.ref a), .val (.long of), .second, .val (.long at_), .second, .val (.long bf_), .second, .val (.int (ij + (1 : Int32))), .val (.long vl), .second, .val (.int sh), .unset, s12, s13] [(.int ij), (.ref b)])) rfl rfl (hb hby d8_35)) ?_
    show G (T2.setTop (mkF m 36 #[.val (.ref a), .val (.long of), .second, .val (.long at_), .second, .val (.long bf_), .second, .val (.int (ij + (1 : Int32))), .val (.long vl), .second, .val (.int sh), .unset, s12, s13] [(.int (f pj))]))
    refine hG _ _ (fun _ k => XS.istore X2.here hx rfl (hb hby d8_36) rfl (l' := #[.val (.ref a), .val (.long of), .second, .val (.long at_), .second, .val (.long bf_), .second, .val (.int (ij + (1 : Int32))), .val (.long vl), .second, .val (.int sh), .val (.int (f pj)), s12, s13]) rfl k) ?_
    show G (T2.setTop (mkF m 38 #[.val (.ref a), .val (.long of), .second, .val (.long at_), .second, .val (.long bf_), .second, .val (.int (ij + (1 : Int32))), .val (.long vl), .second, .val (.int sh), .val (.int (f pj)), s12, s13] []))
    refine hG _ _ (fun _ k => XS.lload X2.here hx rfl (hb hby d8_38) rfl k) ?_
    show G (T2.setTop (mkF m 40 #[.val (.ref a), .val (.long of), .second, .val (.long at_), .second, .val (.long bf_), .second, .val (.int (ij + (1 : Int32))), .val (.long vl), .second, .val (.int sh), .val (.int (f pj)), s12, s13] [(.long vl)]))
    refine hG _ _ (fun _ k => XS.iload X2.here hx rfl (hb hby d8_40) rfl k) ?_
    show G (T2.setTop (mkF m 42 #[.val (.ref a), .val (.long of), .second, .val (.long at_), .second, .val (.long bf_), .second, .val (.int (ij + (1 : Int32))), .val (.long vl), .second, .val (.int sh), .val (.int (f pj)), s12, s13] [(.int (f pj)), (.long vl)]))
    refine hG _ _ (fun _ k => XS.bipush X2.here hx rfl (hb hby d8_42) k) ?_
    show G (T2.setTop (mkF m 44 #[.val (.ref a), .val (.long of), .second, .val (.long at_), .second, .val (.long bf_), .second, .val (.int (ij + (1 : Int32))), .val (.long vl), .second, .val (.int sh), .val (.int (f pj)), s12, s13] [(.int (127 : Int32)), (.int (f pj)), (.long vl)]))
    refine hG _ _ (fun _ k => XS.iand X2.here hx rfl (hb hby d8_44) rfl k) ?_
    show G (T2.setTop (mkF m 45 #[.val (.ref a), .val (.long of), .second, .val (.long at_), .second, .val (.long bf_), .second, .val (.int (ij + (1 : Int32))), .val (.long vl), .second, .val (.int sh), .val (.int (f pj)), s12, s13] [(.int ((f pj) &&& (127 : Int32))), (.long vl)]))
    refine hG _ _ (fun _ k => XS.i2l X2.here hx rfl (hb hby d8_45) rfl k) ?_
    show G (T2.setTop (mkF m 46 #[.val (.ref a), .val (.long of), .second, .val (.long at_), .second, .val (.long bf_), .second, .val (.int (ij + (1 : Int32))), .val (.long vl), .second, .val (.int sh), .val (.int (f pj)), s12, s13] [(.long (((f pj) &&& (127 : Int32)).toInt64)), (.long vl)]))
    refine hG _ _ (fun _ k => XS.iload X2.here hx rfl (hb hby d8_46) rfl k) ?_
    show G (T2.setTop (mkF m 48 #[.val (.ref a), .val (.long of), .second, .val (.long at_), .second, .val (.long bf_), .second, .val (.int (ij + (1 : Int32))), .val (.long vl), .second, .val (.int sh), .val (.int (f pj)), s12, s13] [(.int sh), (.long (((f pj) &&& (127 : Int32)).toInt64)), (.long vl)]))
    refine hG _ _ (fun _ k => XS.lshl X2.here hx rfl (hb hby d8_48) rfl k) ?_
    show G (T2.setTop (mkF m 49 #[.val (.ref a), .val (.long of), .second, .val (.long at_), .second, .val (.long bf_), .second, .val (.int (ij + (1 : Int32))), .val (.long vl), .second, .val (.int sh), .val (.int (f pj)), s12, s13] [(.long ((((f pj) &&& (127 : Int32)).toInt64) <<< (sh &&& 0x3f).toInt64)), (.long vl)]))
    refine hG _ _ (fun _ k => XS.lor X2.here hx rfl (hb hby d8_49) rfl k) ?_
    show G (T2.setTop (mkF m 50 #[.val (.ref a), .val (.long of), .second, .val (.long at_), .second, .val (.long bf_), .second, .val (.int (ij + (1 : Int32))), .val (.long vl), .second, .val (.int sh), .val (.int (f pj)), s12, s13] [(.long (vl ||| ((((f pj) &&& (127 : Int32)).toInt64) <<< (sh &&& 0x3f).toInt64)))]))
    refine hG _ _ (fun _ k => XS.lstore X2.here hx rfl (hb hby d8_50) rfl (l' := #[.val (.ref a), .val (.long of), .second, .val (.long at_), .second, .val (.long bf_), .second, .val (.int (ij + (1 : Int32))), .val (.long (vl ||| ((((f pj) &&& (127 : Int32)).toInt64) <<< (sh &&& 0x3f).toInt64))), .second, .val (.int sh), .val (.int (f pj)), s12, s13]) rfl k) ?_
    show G (T2.setTop (mkF m 52 #[.val (.ref a), .val (.long of), .second, .val (.long at_), .second, .val (.long bf_), .second, .val (.int (ij + (1 : Int32))), .val (.long (vl ||| ((((f pj) &&& (127 : Int32)).toInt64) <<< (sh &&& 0x3f).toInt64))), .second, .val (.int sh), .val (.int (f pj)), s12, s13] []))
    refine hG _ _ (fun _ k => XS.iinc X2.here hx rfl (hb hby d8_52) rfl (l' := #[.val (.ref a), .val (.long of), .second, .val (.long at_), .second, .val (.long bf_), .second, .val (.int (ij + (1 : Int32))), .val (.long (vl ||| ((((f pj) &&& (127 : Int32)).toInt64) <<< (sh &&& 0x3f).toInt64))), .second, .val (.int (sh + (7 : Int32))), .val (.int (f pj)), s12, s13]) rfl k) ?_
    show G (T2.setTop (mkF m 55 #[.val (.ref a), .val (.long of), .second, .val (.long at_), .second, .val (.long bf_), .second, .val (.int (ij + (1 : Int32))), .val (.long (vl ||| ((((f pj) &&& (127 : Int32)).toInt64) <<< (sh &&& 0x3f).toInt64))), .second, .val (.int (sh + (7 : Int32))), .val (.int (f pj)), s12, s13] []))
    refine hG _ _ (fun _ k => XS.iload X2.here hx rfl (hb hby d8_55) rfl k) ?_
    show G (T2.setTop (mkF m 57 #[.val (.ref a), .val (.long of), .second, .val (.long at_), .second, .val (.long bf_), .second, .val (.int (ij + (1 : Int32))), .val (.long (vl ||| ((((f pj) &&& (127 : Int32)).toInt64) <<< (sh &&& 0x3f).toInt64))), .second, .val (.int (sh + (7 : Int32))), .val (.int (f pj)), s12, s13] [(.int (f pj))]))
    refine hG _ _ (fun _ k => XS.ifYes X2.here hx rfl (pc0 := 57) (pc' := 26) rfl (hb hby d8_57) rfl ((if0 _ _).trans (tlt hsg).1) (by decide) (by decide) k) ?_
    show G (T2.setTop (mkF m 26 #[.val (.ref a), .val (.long of), .second, .val (.long at_), .second, .val (.long bf_), .second, .val (.int (ij + (1 : Int32))), .val (.long (vl ||| ((((f pj) &&& (127 : Int32)).toInt64) <<< (sh &&& 0x3f).toInt64))), .second, .val (.int (sh + (7 : Int32))), .val (.int (f pj)), s12, s13] []))
    exact in26 hG hx hZ hw hby hml hown a of b sv sz em f nn at_ bf_ V0 pe s12 s13 h bs T2 lo (ij + (1 : Int32)) (vl ||| ((((f pj) &&& (127 : Int32)).toInt64) <<< (sh &&& 0x3f).toInt64)) (sh + (7 : Int32)) (f pj) (pj + 1) (u / 128) (low + (u % 128) * 2 ^ sk) (sk + 7) X2 e2 O0 F0 (inc_mid hij hb31) (fun j hj => by have := hfb (j + 1) (by simp; omega); simp only [List.getD_cons_succ] at this; rw [← this]; congr 1; omega) hE1 (dec_mid hval hsh hlow hs28 hf0 hb0) (sh_mid hsh hs28) (low_mid hlow) (dec_V hV) (by simp only [List.length_cons] at hsk; omega) (by simp only [List.length_cons] at hpe; omega) hpn hnn kk
theorem d8_0 : decode prog_88_method_4_code 0 = .ok (.aload_n 0, 1) := by decide +kernel
theorem d8_1 : decode prog_88_method_4_code 1 = .ok (.getfield 13, 3) := by decide +kernel
theorem d8_4 : decode prog_88_method_4_code 4 = .ok (.lstore_n 3, 1) := by decide +kernel
theorem d8_5 : decode prog_88_method_4_code 5 = .ok (.lconst 0, 1) := by decide +kernel
theorem d8_6 : decode prog_88_method_4_code 6 = .ok (.lstore 5, 2) := by decide +kernel
theorem d8_8 : decode prog_88_method_4_code 8 = .ok (.iconst 0, 1) := by decide +kernel
theorem d8_9 : decode prog_88_method_4_code 9 = .ok (.istore 7, 2) := by decide +kernel
theorem d8_11 : decode prog_88_method_4_code 11 = .ok (.iload 7, 2) := by decide +kernel
theorem d8_13 : decode prog_88_method_4_code 13 = .ok (.aload_n 0, 1) := by decide +kernel
theorem d8_14 : decode prog_88_method_4_code 14 = .ok (.getfield 17, 3) := by decide +kernel
theorem d8_17 : decode prog_88_method_4_code 17 = .ok (.if_icmp .ge 110, 3) := by decide +kernel
theorem d8_20 : decode prog_88_method_4_code 20 = .ok (.lconst 0, 1) := by decide +kernel
theorem d8_21 : decode prog_88_method_4_code 21 = .ok (.lstore 8, 2) := by decide +kernel
theorem d8_23 : decode prog_88_method_4_code 23 = .ok (.iconst 0, 1) := by decide +kernel
theorem d8_24 : decode prog_88_method_4_code 24 = .ok (.istore 10, 2) := by decide +kernel
theorem d8_60 : decode prog_88_method_4_code 60 = .ok (.lload 8, 2) := by decide +kernel
theorem d8_62 : decode prog_88_method_4_code 62 = .ok (.iconst 1, 1) := by decide +kernel
theorem d8_63 : decode prog_88_method_4_code 63 = .ok (.lushr, 1) := by decide +kernel
theorem d8_64 : decode prog_88_method_4_code 64 = .ok (.lstore 12, 2) := by decide +kernel
theorem d8_66 : decode prog_88_method_4_code 66 = .ok (.lload 8, 2) := by decide +kernel
theorem d8_68 : decode prog_88_method_4_code 68 = .ok (.lconst 1, 1) := by decide +kernel
theorem d8_69 : decode prog_88_method_4_code 69 = .ok (.land, 1) := by decide +kernel
theorem d8_70 : decode prog_88_method_4_code 70 = .ok (.lconst 0, 1) := by decide +kernel
theorem d8_71 : decode prog_88_method_4_code 71 = .ok (.lcmp, 1) := by decide +kernel
theorem d8_72 : decode prog_88_method_4_code 72 = .ok (.ifCond .eq 15, 3) := by decide +kernel
theorem d8_75 : decode prog_88_method_4_code 75 = .ok (.lload_n 3, 1) := by decide +kernel
theorem d8_76 : decode prog_88_method_4_code 76 = .ok (.lload 12, 2) := by decide +kernel
theorem d8_78 : decode prog_88_method_4_code 78 = .ok (.ldc2_w 32, 3) := by decide +kernel
theorem d8_81 : decode prog_88_method_4_code 81 = .ok (.lmul, 1) := by decide +kernel
theorem d8_82 : decode prog_88_method_4_code 82 = .ok (.ladd, 1) := by decide +kernel
theorem d8_83 : decode prog_88_method_4_code 83 = .ok (.lstore_n 3, 1) := by decide +kernel
theorem d8_84 : decode prog_88_method_4_code 84 = .ok (.goto 40, 3) := by decide +kernel
theorem d8_87 : decode prog_88_method_4_code 87 = .ok (.lload_n 1, 1) := by decide +kernel
theorem d8_88 : decode prog_88_method_4_code 88 = .ok (.lload 5, 2) := by decide +kernel
theorem d8_90 : decode prog_88_method_4_code 90 = .ok (.lload 12, 2) := by decide +kernel
theorem d8_92 : decode prog_88_method_4_code 92 = .ok (.ladd, 1) := by decide +kernel
theorem d8_93 : decode prog_88_method_4_code 93 = .ok (.lcmp, 1) := by decide +kernel
theorem d8_94 : decode prog_88_method_4_code 94 = .ok (.ifCond .ge 14, 3) := by decide +kernel
theorem d8_97 : decode prog_88_method_4_code 97 = .ok (.lload_n 3, 1) := by decide +kernel
theorem d8_98 : decode prog_88_method_4_code 98 = .ok (.ldc2_w 32, 3) := by decide +kernel
theorem d8_101 : decode prog_88_method_4_code 101 = .ok (.ladd, 1) := by decide +kernel
theorem d8_102 : decode prog_88_method_4_code 102 = .ok (.lload_n 1, 1) := by decide +kernel
theorem d8_103 : decode prog_88_method_4_code 103 = .ok (.ladd, 1) := by decide +kernel
theorem d8_104 : decode prog_88_method_4_code 104 = .ok (.lload 5, 2) := by decide +kernel
theorem d8_106 : decode prog_88_method_4_code 106 = .ok (.lsub, 1) := by decide +kernel
theorem d8_107 : decode prog_88_method_4_code 107 = .ok (.lreturn, 1) := by decide +kernel
theorem d8_108 : decode prog_88_method_4_code 108 = .ok (.lload_n 3, 1) := by decide +kernel
theorem d8_109 : decode prog_88_method_4_code 109 = .ok (.ldc2_w 32, 3) := by decide +kernel
theorem d8_112 : decode prog_88_method_4_code 112 = .ok (.lload 12, 2) := by decide +kernel
theorem d8_114 : decode prog_88_method_4_code 114 = .ok (.ladd, 1) := by decide +kernel
theorem d8_115 : decode prog_88_method_4_code 115 = .ok (.ladd, 1) := by decide +kernel
theorem d8_116 : decode prog_88_method_4_code 116 = .ok (.lstore_n 3, 1) := by decide +kernel
theorem d8_117 : decode prog_88_method_4_code 117 = .ok (.lload 5, 2) := by decide +kernel
theorem d8_119 : decode prog_88_method_4_code 119 = .ok (.lload 12, 2) := by decide +kernel
theorem d8_121 : decode prog_88_method_4_code 121 = .ok (.ladd, 1) := by decide +kernel
theorem d8_122 : decode prog_88_method_4_code 122 = .ok (.lstore 5, 2) := by decide +kernel
theorem d8_124 : decode prog_88_method_4_code 124 = .ok (.goto (-113), 3) := by decide +kernel
theorem d8_127 : decode prog_88_method_4_code 127 = .ok (.lload_n 3, 1) := by decide +kernel
theorem d8_128 : decode prog_88_method_4_code 128 = .ok (.aload_n 0, 1) := by decide +kernel
theorem d8_129 : decode prog_88_method_4_code 129 = .ok (.getfield 21, 3) := by decide +kernel
theorem d8_132 : decode prog_88_method_4_code 132 = .ok (.ldc2_w 32, 3) := by decide +kernel
theorem d8_135 : decode prog_88_method_4_code 135 = .ok (.lmul, 1) := by decide +kernel
theorem d8_136 : decode prog_88_method_4_code 136 = .ok (.ladd, 1) := by decide +kernel
theorem d8_137 : decode prog_88_method_4_code 137 = .ok (.lreturn, 1) := by decide +kernel
theorem pn_8 : plainName "com/example/fourfold/fourfold/xdr/FragmentMap" = true := by first | (simp [plainName, overriddenIn]; done) | decide +kernel
theorem ef_8 (m : MethodId) (x0 : Addr) (x1 : Int64) : entryFrame m #[(.ref x0), (.long x1)] 14 = mkF m 0 #[.val (.ref x0), .val (.long x1), .second, .unset, .unset, .unset, .unset, .unset, .unset, .unset, .unset, .unset, .unset, .unset] [] := by first | (simp [entryFrame, mkF, argsToLocals, Value.category]; done) | rfl
set_option maxRecDepth 65536 in
set_option maxHeartbeats 40000000 in
theorem rm_inStream (l : Launch) (Z : State) (a0 : Array Value) (hw : ∀ d ∈ tables_1, d.before a0 Z = true) (ws : List Jvm.Cond) (a : Addr) (of : Int64) (b : Addr) (sv : Int64) (sz : Int32) (em : Int64) (f : Nat → Int32) (nn : Nat) (k : Nat) (vs0 : List Nat) (h0 : Heap) (n0 : Nat) (Z0 : n0 ≤ h0.size) (O0 : Obj Z h0 a "com/example/fourfold/fourfold/xdr/FragmentMap" sch_fm [(.ref b), (.long sv), (.int sz), (.long em)]) (F0 : FA Z h0 b .byte nn (fun i => .int (f i))) (hk : sz.toInt = (k : Int)) (hEn0 : EncAt f 0 vs0 k) (hkn : k ≤ nn) (hnn : nn ≤ 1000) :
    MetFree l (⟨"com/example/fourfold/fourfold/xdr/FragmentMap", "inStream", "(J)J"⟩ : MethodName) (head1 (Jvm.Cond.code (⟨"com/example/fourfold/fourfold/xdr/FragmentMap", "inStream", "(J)J"⟩ : MethodName) prog_88_method_4_code 14 (some .long) :: ws) ({ frames := 0, cells := 0, slots := 0, locals := 0 } : Room)) (fun a_ U => a_ = #[(.ref a), (.long of)] ∧ Z.Warmed39 U.vm ∧ U.heap = h0) (fun _ _ _ _ _ => True) (fun _ U o U' => ∃ v_ L_, o = .returned v_ ∧ QP (.long (scanF vs0 sv (0 : Int64) of em)) h0 v_ U'.heap L_ ∧ FrameEnd U o U' L_ ({ frames := 0, cells := 0, slots := 0, locals := 0 } : Room).cells ({ frames := 0, cells := 0, slots := 0, locals := 0 } : Room).slots) := by
  refine MetFree.of_bodySF (plainFor_of_name pn_8) hisR ?_
  intro p e s m args below meth c s₁ Bd hml0 hP hK
  obtain ⟨rfl, hZ, hh⟩ := hP
  have hx := Bd.exec
  have hby := Bd.bytes
  have hlk : meth.locks = false := Bd.notSynchronized
  have hml : c.maxLocals = 14 := hml0
  have hown : s.vm.findClass "com/example/fourfold/fourfold/xdr/FragmentMap" = some m.cls := findClass_of_methodNamed Bd.named
  have hnm := (name_of_methodNamed Bd.named Bd.method).1
  have X0 : Stand p l e ({ frames := 0, cells := 0, slots := 0, locals := 0 } : Room) s m #[(.ref a), (.long of)] below meth c s₁ [] 0 0 := Stand.of_body Bd
  have e0 : s₁.heap = h0 := by rw [← hh, Bd.state]; rfl
  have N0 := Fr.nil n0
  have K0 : Keep h0 h0 [] := Keep.refl _ _
  show OEnds p e below s (QP (.long (scanF vs0 sv (0 : Int64) of em)) h0) _ _ _
  refine own_by (fun t k => castTop (ef_8 m a of) k) ?_
  show OEnds p e below s _ _ _ (s₁.setTop (mkF m 0 #[.val (.ref a), .val (.long of), .second, .unset, .unset, .unset, .unset, .unset, .unset, .unset, .unset, .unset, .unset, .unset] []))
  refine own_by (fun _ k => XS.aloadN X0.here hx rfl (hb hby d8_0) rfl rfl k) ?_
  show OEnds p e below s _ _ _ (s₁.setTop (mkF m 1 #[.val (.ref a), .val (.long of), .second, .unset, .unset, .unset, .unset, .unset, .unset, .unset, .unset, .unset, .unset, .unset] [(.ref a)]))
  obtain ⟨T1, X1, e1, st1⟩ := getF X0 hx hZ hown (host := "") (Or.inl (hw _ (List.mem_of_getElem? (i := 21) rfl))) Via.refl e0 (O0.fld 1 rfl rfl) (g := (mkF m 1 #[.val (.ref a), .val (.long of), .second, .unset, .unset, .unset, .unset, .unset, .unset, .unset, .unset, .unset, .unset, .unset] [(.ref a)])) rfl rfl (hb hby d8_1)
  refine own_by (st1) ?_
  show OEnds p e below s _ _ _ (T1.setTop (mkF m 4 #[.val (.ref a), .val (.long of), .second, .unset, .unset, .unset, .unset, .unset, .unset, .unset, .unset, .unset, .unset, .unset] [(.long sv)]))
  refine own_by (fun _ k => XS.lstoreN X1.here hx rfl (hb hby d8_4) rfl (l' := #[.val (.ref a), .val (.long of), .second, .val (.long sv), .second, .unset, .unset, .unset, .unset, .unset, .unset, .unset, .unset, .unset]) rfl k) ?_
  show OEnds p e below s _ _ _ (T1.setTop (mkF m 5 #[.val (.ref a), .val (.long of), .second, .val (.long sv), .second, .unset, .unset, .unset, .unset, .unset, .unset, .unset, .unset, .unset] []))
  refine own_by (fun _ k => XS.lconst X1.here hx rfl (hb hby d8_5) k) ?_
  show OEnds p e below s _ _ _ (T1.setTop (mkF m 6 #[.val (.ref a), .val (.long of), .second, .val (.long sv), .second, .unset, .unset, .unset, .unset, .unset, .unset, .unset, .unset, .unset] [(.long (0 : Int64))]))
  refine own_by (fun _ k => XS.lstore X1.here hx rfl (hb hby d8_6) rfl (l' := #[.val (.ref a), .val (.long of), .second, .val (.long sv), .second, .val (.long (0 : Int64)), .second, .unset, .unset, .unset, .unset, .unset, .unset, .unset]) rfl k) ?_
  show OEnds p e below s _ _ _ (T1.setTop (mkF m 8 #[.val (.ref a), .val (.long of), .second, .val (.long sv), .second, .val (.long (0 : Int64)), .second, .unset, .unset, .unset, .unset, .unset, .unset, .unset] []))
  refine own_by (fun _ k => XS.iconst X1.here hx rfl (hb hby d8_8) k) ?_
  show OEnds p e below s _ _ _ (T1.setTop (mkF m 9 #[.val (.ref a), .val (.long of), .second, .val (.long sv), .second, .val (.long (0 : Int64)), .second, .unset, .unset, .unset, .unset, .unset, .unset, .unset] [(.int (0 : Int32))]))
  refine own_by (fun _ k => XS.istore X1.here hx rfl (hb hby d8_9) rfl (l' := #[.val (.ref a), .val (.long of), .second, .val (.long sv), .second, .val (.long (0 : Int64)), .second, .val (.int (0 : Int32)), .unset, .unset, .unset, .unset, .unset, .unset]) rfl k) ?_
  show OEnds p e below s _ _ _ (T1.setTop (mkF m 11 #[.val (.ref a), .val (.long of), .second, .val (.long sv), .second, .val (.long (0 : Int64)), .second, .val (.int (0 : Int32)), .unset, .unset, .unset, .unset, .unset, .unset] []))
  have o11 : ∀ (vs : List Nat) (T : State) (lo : List Loc) (at_ : Int64) (bf_ : Int64) (ii : Int32) (d8 : Int64) (d10 : Int32) (d11 : Int32) (d12 : Int64) (i : Nat) (X_o11 : Stand p l e ({ frames := 0, cells := 0, slots := 0, locals := 0 } : Room) s m #[(.ref a), (.long of)] below meth c T lo 0 0) (e_o11 : T.heap = h0) (N_o11 : Fr n0 lo) (hlo : lo = []) (hii : ii.toInt = (i : Int)) (hEn : EncAt f i vs k) (hres : scanF vs at_ bf_ of em = scanF vs0 sv (0 : Int64) of em), OEnds p e below s (QP (.long (scanF vs0 sv (0 : Int64) of em)) h0) 0 0 (T.setTop (mkF m 11 #[.val (.ref a), .val (.long of), .second, .val (.long at_), .second, .val (.long bf_), .second, .val (.int ii), .val (.long d8), .second, .val (.int d10), .val (.int d11), .val (.long d12), .second] [])) := by
    intro vs
    induction vs with
    | nil =>
      intro T lo at_ bf_ ii d8 d10 d11 d12 i X_o11 e_o11 N_o11 hlo hii hEn hres
      show OEnds p e below s _ _ _ (T.setTop (mkF m 11 #[.val (.ref a), .val (.long of), .second, .val (.long at_), .second, .val (.long bf_), .second, .val (.int ii), .val (.long d8), .second, .val (.int d10), .val (.int d11), .val (.long d12), .second] []))
      have hik : i = k := hEn
      refine own_by (fun _ k => XS.iload X_o11.here hx rfl (hb hby d8_11) rfl k) ?_
      show OEnds p e below s _ _ _ (T.setTop (mkF m 13 #[.val (.ref a), .val (.long of), .second, .val (.long at_), .second, .val (.long bf_), .second, .val (.int ii), .val (.long d8), .second, .val (.int d10), .val (.int d11), .val (.long d12), .second] [(.int ii)]))
      refine own_by (fun _ k => XS.aloadN X_o11.here hx rfl (hb hby d8_13) rfl rfl k) ?_
      show OEnds p e below s _ _ _ (T.setTop (mkF m 14 #[.val (.ref a), .val (.long of), .second, .val (.long at_), .second, .val (.long bf_), .second, .val (.int ii), .val (.long d8), .second, .val (.int d10), .val (.int d11), .val (.long d12), .second] [(.ref a), (.int ii)]))
      obtain ⟨T2, X2, e2, st2⟩ := getF X_o11 hx hZ hown (host := "") (Or.inl (hw _ (List.mem_of_getElem? (i := 23) rfl))) Via.refl e_o11 (O0.fld 2 rfl rfl) (g := (mkF m 14 #[.val (.ref a), .val (.long of), .second, .val (.long at_), .second, .val (.long bf_), .second, .val (.int ii), .val (.long d8), .second, .val (.int d10), .val (.int d11), .val (.long d12), .second] [(.ref a), (.int ii)])) rfl rfl (hb hby d8_14)
      refine own_by (st2) ?_
      show OEnds p e below s _ _ _ (T2.setTop (mkF m 17 #[.val (.ref a), .val (.long of), .second, .val (.long at_), .second, .val (.long bf_), .second, .val (.int ii), .val (.long d8), .second, .val (.int d10), .val (.int d11), .val (.long d12), .second] [(.int sz), (.int ii)]))
      refine own_by (fun _ k => XS.icmpYes X2.here hx rfl (pc0 := 17) (pc' := 127) rfl (hb hby d8_17) rfl (flt (at_end hii hk hik)).2.1 (by decide) (by decide) k) ?_
      show OEnds p e below s _ _ _ (T2.setTop (mkF m 127 #[.val (.ref a), .val (.long of), .second, .val (.long at_), .second, .val (.long bf_), .second, .val (.int ii), .val (.long d8), .second, .val (.int d10), .val (.int d11), .val (.long d12), .second] []))
      refine own_by (fun _ k => XS.lloadN X2.here hx rfl (hb hby d8_127) rfl k) ?_
      show OEnds p e below s _ _ _ (T2.setTop (mkF m 128 #[.val (.ref a), .val (.long of), .second, .val (.long at_), .second, .val (.long bf_), .second, .val (.int ii), .val (.long d8), .second, .val (.int d10), .val (.int d11), .val (.long d12), .second] [(.long at_)]))
      refine own_by (fun _ k => XS.aloadN X2.here hx rfl (hb hby d8_128) rfl rfl k) ?_
      show OEnds p e below s _ _ _ (T2.setTop (mkF m 129 #[.val (.ref a), .val (.long of), .second, .val (.long at_), .second, .val (.long bf_), .second, .val (.int ii), .val (.long d8), .second, .val (.int d10), .val (.int d11), .val (.long d12), .second] [(.ref a), (.long at_)]))
      obtain ⟨T3, X3, e3, st3⟩ := getF X2 hx hZ hown (host := "") (Or.inl (hw _ (List.mem_of_getElem? (i := 25) rfl))) Via.refl e2 (O0.fld 3 rfl rfl) (g := (mkF m 129 #[.val (.ref a), .val (.long of), .second, .val (.long at_), .second, .val (.long bf_), .second, .val (.int ii), .val (.long d8), .second, .val (.int d10), .val (.int d11), .val (.long d12), .second] [(.ref a), (.long at_)])) rfl rfl (hb hby d8_129)
      refine own_by (st3) ?_
      show OEnds p e below s _ _ _ (T3.setTop (mkF m 132 #[.val (.ref a), .val (.long of), .second, .val (.long at_), .second, .val (.long bf_), .second, .val (.int ii), .val (.long d8), .second, .val (.int d10), .val (.int d11), .val (.long d12), .second] [(.long em), (.long at_)]))
      refine own_by (X3.ldc2Long hx hown (mvT hZ (hw _ (List.mem_of_getElem? (i := 49) rfl))) (g := (mkF m 132 #[.val (.ref a), .val (.long of), .second, .val (.long at_), .second, .val (.long bf_), .second, .val (.int ii), .val (.long d8), .second, .val (.int d10), .val (.int d11), .val (.long d12), .second] [(.long em), (.long at_)])) rfl (hb hby d8_132)) ?_
      show OEnds p e below s _ _ _ (T3.setTop (mkF m 135 #[.val (.ref a), .val (.long of), .second, .val (.long at_), .second, .val (.long bf_), .second, .val (.int ii), .val (.long d8), .second, .val (.int d10), .val (.int d11), .val (.long d12), .second] [(.long (4 : Int64)), (.long em), (.long at_)]))
      refine own_by (fun _ k => XS.lmul X3.here hx rfl (hb hby d8_135) rfl k) ?_
      show OEnds p e below s _ _ _ (T3.setTop (mkF m 136 #[.val (.ref a), .val (.long of), .second, .val (.long at_), .second, .val (.long bf_), .second, .val (.int ii), .val (.long d8), .second, .val (.int d10), .val (.int d11), .val (.long d12), .second] [(.long (em * (4 : Int64))), (.long at_)]))
      refine own_by (fun _ k => XS.ladd X3.here hx rfl (hb hby d8_136) rfl k) ?_
      show OEnds p e below s _ _ _ (T3.setTop (mkF m 137 #[.val (.ref a), .val (.long of), .second, .val (.long at_), .second, .val (.long bf_), .second, .val (.int ii), .val (.long d8), .second, .val (.int d10), .val (.int d11), .val (.long d12), .second] [(.long (at_ + (em * (4 : Int64))))]))
      exact own_retJ X3 hx hlk Bd.returns (hb hby d8_137) ⟨congrArg (fun z => some (Value.long z)) (hres), hlo, e3⟩ (by decide) (by decide)
    | cons v vs ih_o11 =>
      intro T lo at_ bf_ ii d8 d10 d11 d12 i X_o11 e_o11 N_o11 hlo hii hEn hres
      show OEnds p e below s _ _ _ (T.setTop (mkF m 11 #[.val (.ref a), .val (.long of), .second, .val (.long at_), .second, .val (.long bf_), .second, .val (.int ii), .val (.long d8), .second, .val (.int d10), .val (.int d11), .val (.long d12), .second] []))
      obtain ⟨bs0, hE0, hb5, hf0, hEr⟩ := hEn
      have hle0 := encat_le hEr
      have hpos0 := enc_pos hE0
      have hv35 := enc_lt hE0 hb5
      refine own_by (fun _ k => XS.iload X_o11.here hx rfl (hb hby d8_11) rfl k) ?_
      show OEnds p e below s _ _ _ (T.setTop (mkF m 13 #[.val (.ref a), .val (.long of), .second, .val (.long at_), .second, .val (.long bf_), .second, .val (.int ii), .val (.long d8), .second, .val (.int d10), .val (.int d11), .val (.long d12), .second] [(.int ii)]))
      refine own_by (fun _ k => XS.aloadN X_o11.here hx rfl (hb hby d8_13) rfl rfl k) ?_
      show OEnds p e below s _ _ _ (T.setTop (mkF m 14 #[.val (.ref a), .val (.long of), .second, .val (.long at_), .second, .val (.long bf_), .second, .val (.int ii), .val (.long d8), .second, .val (.int d10), .val (.int d11), .val (.long d12), .second] [(.ref a), (.int ii)]))
      obtain ⟨T4, X4, e4, st4⟩ := getF X_o11 hx hZ hown (host := "") (Or.inl (hw _ (List.mem_of_getElem? (i := 23) rfl))) Via.refl e_o11 (O0.fld 2 rfl rfl) (g := (mkF m 14 #[.val (.ref a), .val (.long of), .second, .val (.long at_), .second, .val (.long bf_), .second, .val (.int ii), .val (.long d8), .second, .val (.int d10), .val (.int d11), .val (.long d12), .second] [(.ref a), (.int ii)])) rfl rfl (hb hby d8_14)
      refine own_by (st4) ?_
      show OEnds p e below s _ _ _ (T4.setTop (mkF m 17 #[.val (.ref a), .val (.long of), .second, .val (.long at_), .second, .val (.long bf_), .second, .val (.int ii), .val (.long d8), .second, .val (.int d10), .val (.int d11), .val (.long d12), .second] [(.int sz), (.int ii)]))
      refine own_by (fun _ k => XS.icmpNo X4.here hx rfl (hb hby d8_17) rfl (tlt (not_end hii hk (by omega))).2.1 k) ?_
      show OEnds p e below s _ _ _ (T4.setTop (mkF m 20 #[.val (.ref a), .val (.long of), .second, .val (.long at_), .second, .val (.long bf_), .second, .val (.int ii), .val (.long d8), .second, .val (.int d10), .val (.int d11), .val (.long d12), .second] []))
      refine own_by (fun _ k => XS.lconst X4.here hx rfl (hb hby d8_20) k) ?_
      show OEnds p e below s _ _ _ (T4.setTop (mkF m 21 #[.val (.ref a), .val (.long of), .second, .val (.long at_), .second, .val (.long bf_), .second, .val (.int ii), .val (.long d8), .second, .val (.int d10), .val (.int d11), .val (.long d12), .second] [(.long (0 : Int64))]))
      refine own_by (fun _ k => XS.lstore X4.here hx rfl (hb hby d8_21) rfl (l' := #[.val (.ref a), .val (.long of), .second, .val (.long at_), .second, .val (.long bf_), .second, .val (.int ii), .val (.long (0 : Int64)), .second, .val (.int d10), .val (.int d11), .val (.long d12), .second]) rfl k) ?_
      show OEnds p e below s _ _ _ (T4.setTop (mkF m 23 #[.val (.ref a), .val (.long of), .second, .val (.long at_), .second, .val (.long bf_), .second, .val (.int ii), .val (.long (0 : Int64)), .second, .val (.int d10), .val (.int d11), .val (.long d12), .second] []))
      refine own_by (fun _ k => XS.iconst X4.here hx rfl (hb hby d8_23) k) ?_
      show OEnds p e below s _ _ _ (T4.setTop (mkF m 24 #[.val (.ref a), .val (.long of), .second, .val (.long at_), .second, .val (.long bf_), .second, .val (.int ii), .val (.long (0 : Int64)), .second, .val (.int d10), .val (.int d11), .val (.long d12), .second] [(.int (0 : Int32))]))
      refine own_by (fun _ k => XS.istore X4.here hx rfl (hb hby d8_24) rfl (l' := #[.val (.ref a), .val (.long of), .second, .val (.long at_), .second, .val (.long bf_), .second, .val (.int ii), .val (.long (0 : Int64)), .second, .val (.int (0 : Int32)), .val (.int d11), .val (.long d12), .second]) rfl k) ?_
      show OEnds p e below s _ _ _ (T4.setTop (mkF m 26 #[.val (.ref a), .val (.long of), .second, .val (.long at_), .second, .val (.long bf_), .second, .val (.int ii), .val (.long (0 : Int64)), .second, .val (.int (0 : Int32)), .val (.int d11), .val (.long d12), .second] []))
      refine in26 (G := OEnds p e below s _ 0 0) (fun _ _ => own_by) hx hZ hw hby hml hown a of b sv sz em f nn at_ bf_ v (i + bs0.length) (.val (.long d12)) (.second) h0 bs0 T4 _ ii (0 : Int64) (0 : Int32) d11 i v 0 0 X4 e4 O0 F0 hii (fun j hj => hf0 j hj) hE0 (by decide) (by decide) (by decide) (by simp) (by omega) rfl (by omega) hnn ?_
      intro T5 vx5 sx5 bx5 ix5 X5 e5 hvx hix
      show OEnds p e below s _ _ _ (T5.setTop (mkF m 60 #[.val (.ref a), .val (.long of), .second, .val (.long at_), .second, .val (.long bf_), .second, .val (.int ix5), .val (.long vx5), .second, .val (.int sx5), .val (.int bx5), .val (.long d12), .second] []))
      refine own_by (fun _ k => XS.lload X5.here hx rfl (hb hby d8_60) rfl k) ?_
      show OEnds p e below s _ _ _ (T5.setTop (mkF m 62 #[.val (.ref a), .val (.long of), .second, .val (.long at_), .second, .val (.long bf_), .second, .val (.int ix5), .val (.long vx5), .second, .val (.int sx5), .val (.int bx5), .val (.long d12), .second] [(.long vx5)]))
      refine own_by (fun _ k => XS.iconst X5.here hx rfl (hb hby d8_62) k) ?_
      show OEnds p e below s _ _ _ (T5.setTop (mkF m 63 #[.val (.ref a), .val (.long of), .second, .val (.long at_), .second, .val (.long bf_), .second, .val (.int ix5), .val (.long vx5), .second, .val (.int sx5), .val (.int bx5), .val (.long d12), .second] [(.int (1 : Int32)), (.long vx5)]))
      refine own_by (fun _ k => XS.lushr X5.here hx rfl (hb hby d8_63) rfl k) ?_
      show OEnds p e below s _ _ _ (T5.setTop (mkF m 64 #[.val (.ref a), .val (.long of), .second, .val (.long at_), .second, .val (.long bf_), .second, .val (.int ix5), .val (.long vx5), .second, .val (.int sx5), .val (.int bx5), .val (.long d12), .second] [(.long ((vx5.toUInt64 >>> ((1 : Int32) &&& 0x3f).toInt64.toUInt64).toInt64))]))
      refine own_by (fun _ k => XS.lstore X5.here hx rfl (hb hby d8_64) rfl (l' := #[.val (.ref a), .val (.long of), .second, .val (.long at_), .second, .val (.long bf_), .second, .val (.int ix5), .val (.long vx5), .second, .val (.int sx5), .val (.int bx5), .val (.long ((vx5.toUInt64 >>> ((1 : Int32) &&& 0x3f).toInt64.toUInt64).toInt64)), .second]) rfl k) ?_
      show OEnds p e below s _ _ _ (T5.setTop (mkF m 66 #[.val (.ref a), .val (.long of), .second, .val (.long at_), .second, .val (.long bf_), .second, .val (.int ix5), .val (.long vx5), .second, .val (.int sx5), .val (.int bx5), .val (.long ((vx5.toUInt64 >>> ((1 : Int32) &&& 0x3f).toInt64.toUInt64).toInt64)), .second] []))
      have hnh := half hvx hv35
      rw [hnh]
      show OEnds p e below s _ _ _ (T5.setTop (mkF m 66 #[.val (.ref a), .val (.long of), .second, .val (.long at_), .second, .val (.long bf_), .second, .val (.int ix5), .val (.long vx5), .second, .val (.int sx5), .val (.int bx5), .val (.long (hf v)), .second] []))
      refine own_by (fun _ k => XS.lload X5.here hx rfl (hb hby d8_66) rfl k) ?_
      show OEnds p e below s _ _ _ (T5.setTop (mkF m 68 #[.val (.ref a), .val (.long of), .second, .val (.long at_), .second, .val (.long bf_), .second, .val (.int ix5), .val (.long vx5), .second, .val (.int sx5), .val (.int bx5), .val (.long (hf v)), .second] [(.long vx5)]))
      refine own_by (fun _ k => XS.lconst X5.here hx rfl (hb hby d8_68) k) ?_
      show OEnds p e below s _ _ _ (T5.setTop (mkF m 69 #[.val (.ref a), .val (.long of), .second, .val (.long at_), .second, .val (.long bf_), .second, .val (.int ix5), .val (.long vx5), .second, .val (.int sx5), .val (.int bx5), .val (.long (hf v)), .second] [(.long (1 : Int64)), (.long vx5)]))
      refine own_by (fun _ k => XS.land X5.here hx rfl (hb hby d8_69) rfl k) ?_
      show OEnds p e below s _ _ _ (T5.setTop (mkF m 70 #[.val (.ref a), .val (.long of), .second, .val (.long at_), .second, .val (.long bf_), .second, .val (.int ix5), .val (.long vx5), .second, .val (.int sx5), .val (.int bx5), .val (.long (hf v)), .second] [(.long (vx5 &&& (1 : Int64)))]))
      refine own_by (fun _ k => XS.lconst X5.here hx rfl (hb hby d8_70) k) ?_
      show OEnds p e below s _ _ _ (T5.setTop (mkF m 71 #[.val (.ref a), .val (.long of), .second, .val (.long at_), .second, .val (.long bf_), .second, .val (.int ix5), .val (.long vx5), .second, .val (.int sx5), .val (.int bx5), .val (.long (hf v)), .second] [(.long (0 : Int64)), (.long (vx5 &&& (1 : Int64)))]))
      refine own_by (fun _ k => XS.lcmp X5.here hx rfl (hb hby d8_71) rfl k) ?_
      show OEnds p e below s _ _ _ (T5.setTop (mkF m 72 #[.val (.ref a), .val (.long of), .second, .val (.long at_), .second, .val (.long bf_), .second, .val (.int ix5), .val (.long vx5), .second, .val (.int sx5), .val (.int bx5), .val (.long (hf v)), .second] [(.int (lcmpW (vx5 &&& (1 : Int64)) (0 : Int64)))]))
      by_cases hc72_6 : (vx5 &&& (1 : Int64)) = (0 : Int64)
      · refine own_by (fun _ k => XS.ifYes X5.here hx rfl (pc0 := 72) (pc' := 87) rfl (hb hby d8_72) rfl ((if0 _ _).trans (teq ((lw_eq _ _).mpr hc72_6)).1) (by decide) (by decide) k) ?_
        show OEnds p e below s _ _ _ (T5.setTop (mkF m 87 #[.val (.ref a), .val (.long of), .second, .val (.long at_), .second, .val (.long bf_), .second, .val (.int ix5), .val (.long vx5), .second, .val (.int sx5), .val (.int bx5), .val (.long (hf v)), .second] []))
        refine own_by (fun _ k => XS.lloadN X5.here hx rfl (hb hby d8_87) rfl k) ?_
        show OEnds p e below s _ _ _ (T5.setTop (mkF m 88 #[.val (.ref a), .val (.long of), .second, .val (.long at_), .second, .val (.long bf_), .second, .val (.int ix5), .val (.long vx5), .second, .val (.int sx5), .val (.int bx5), .val (.long (hf v)), .second] [(.long of)]))
        refine own_by (fun _ k => XS.lload X5.here hx rfl (hb hby d8_88) rfl k) ?_
        show OEnds p e below s _ _ _ (T5.setTop (mkF m 90 #[.val (.ref a), .val (.long of), .second, .val (.long at_), .second, .val (.long bf_), .second, .val (.int ix5), .val (.long vx5), .second, .val (.int sx5), .val (.int bx5), .val (.long (hf v)), .second] [(.long bf_), (.long of)]))
        refine own_by (fun _ k => XS.lload X5.here hx rfl (hb hby d8_90) rfl k) ?_
        show OEnds p e below s _ _ _ (T5.setTop (mkF m 92 #[.val (.ref a), .val (.long of), .second, .val (.long at_), .second, .val (.long bf_), .second, .val (.int ix5), .val (.long vx5), .second, .val (.int sx5), .val (.int bx5), .val (.long (hf v)), .second] [(.long (hf v)), (.long bf_), (.long of)]))
        refine own_by (fun _ k => XS.ladd X5.here hx rfl (hb hby d8_92) rfl k) ?_
        show OEnds p e below s _ _ _ (T5.setTop (mkF m 93 #[.val (.ref a), .val (.long of), .second, .val (.long at_), .second, .val (.long bf_), .second, .val (.int ix5), .val (.long vx5), .second, .val (.int sx5), .val (.int bx5), .val (.long (hf v)), .second] [(.long (bf_ + (hf v))), (.long of)]))
        refine own_by (fun _ k => XS.lcmp X5.here hx rfl (hb hby d8_93) rfl k) ?_
        show OEnds p e below s _ _ _ (T5.setTop (mkF m 94 #[.val (.ref a), .val (.long of), .second, .val (.long at_), .second, .val (.long bf_), .second, .val (.int ix5), .val (.long vx5), .second, .val (.int sx5), .val (.int bx5), .val (.long (hf v)), .second] [(.int (lcmpW of (bf_ + (hf v))))]))
        by_cases hc94_7 : of < (bf_ + (hf v))
        · refine own_by (fun _ k => XS.ifNo X5.here hx rfl (hb hby d8_94) rfl ((if0 _ _).trans (tlt ((lw_lt _ _).mpr hc94_7)).2.1) k) ?_
          show OEnds p e below s _ _ _ (T5.setTop (mkF m 97 #[.val (.ref a), .val (.long of), .second, .val (.long at_), .second, .val (.long bf_), .second, .val (.int ix5), .val (.long vx5), .second, .val (.int sx5), .val (.int bx5), .val (.long (hf v)), .second] []))
          refine own_by (fun _ k => XS.lloadN X5.here hx rfl (hb hby d8_97) rfl k) ?_
          show OEnds p e below s _ _ _ (T5.setTop (mkF m 98 #[.val (.ref a), .val (.long of), .second, .val (.long at_), .second, .val (.long bf_), .second, .val (.int ix5), .val (.long vx5), .second, .val (.int sx5), .val (.int bx5), .val (.long (hf v)), .second] [(.long at_)]))
          refine own_by (X5.ldc2Long hx hown (mvT hZ (hw _ (List.mem_of_getElem? (i := 49) rfl))) (g := (mkF m 98 #[.val (.ref a), .val (.long of), .second, .val (.long at_), .second, .val (.long bf_), .second, .val (.int ix5), .val (.long vx5), .second, .val (.int sx5), .val (.int bx5), .val (.long (hf v)), .second] [(.long at_)])) rfl (hb hby d8_98)) ?_
          show OEnds p e below s _ _ _ (T5.setTop (mkF m 101 #[.val (.ref a), .val (.long of), .second, .val (.long at_), .second, .val (.long bf_), .second, .val (.int ix5), .val (.long vx5), .second, .val (.int sx5), .val (.int bx5), .val (.long (hf v)), .second] [(.long (4 : Int64)), (.long at_)]))
          refine own_by (fun _ k => XS.ladd X5.here hx rfl (hb hby d8_101) rfl k) ?_
          show OEnds p e below s _ _ _ (T5.setTop (mkF m 102 #[.val (.ref a), .val (.long of), .second, .val (.long at_), .second, .val (.long bf_), .second, .val (.int ix5), .val (.long vx5), .second, .val (.int sx5), .val (.int bx5), .val (.long (hf v)), .second] [(.long (at_ + (4 : Int64)))]))
          refine own_by (fun _ k => XS.lloadN X5.here hx rfl (hb hby d8_102) rfl k) ?_
          show OEnds p e below s _ _ _ (T5.setTop (mkF m 103 #[.val (.ref a), .val (.long of), .second, .val (.long at_), .second, .val (.long bf_), .second, .val (.int ix5), .val (.long vx5), .second, .val (.int sx5), .val (.int bx5), .val (.long (hf v)), .second] [(.long of), (.long (at_ + (4 : Int64)))]))
          refine own_by (fun _ k => XS.ladd X5.here hx rfl (hb hby d8_103) rfl k) ?_
          show OEnds p e below s _ _ _ (T5.setTop (mkF m 104 #[.val (.ref a), .val (.long of), .second, .val (.long at_), .second, .val (.long bf_), .second, .val (.int ix5), .val (.long vx5), .second, .val (.int sx5), .val (.int bx5), .val (.long (hf v)), .second] [(.long ((at_ + (4 : Int64)) + of))]))
          refine own_by (fun _ k => XS.lload X5.here hx rfl (hb hby d8_104) rfl k) ?_
          show OEnds p e below s _ _ _ (T5.setTop (mkF m 106 #[.val (.ref a), .val (.long of), .second, .val (.long at_), .second, .val (.long bf_), .second, .val (.int ix5), .val (.long vx5), .second, .val (.int sx5), .val (.int bx5), .val (.long (hf v)), .second] [(.long bf_), (.long ((at_ + (4 : Int64)) + of))]))
          refine own_by (fun _ k => XS.lsub X5.here hx rfl (hb hby d8_106) rfl k) ?_
          show OEnds p e below s _ _ _ (T5.setTop (mkF m 107 #[.val (.ref a), .val (.long of), .second, .val (.long at_), .second, .val (.long bf_), .second, .val (.int ix5), .val (.long vx5), .second, .val (.int sx5), .val (.int bx5), .val (.long (hf v)), .second] [(.long (((at_ + (4 : Int64)) + of) - bf_))]))
          exact own_retJ X5 hx hlk Bd.returns (hb hby d8_107) ⟨congrArg (fun z => some (Value.long z)) ((scan_hit (even_of hvx hc72_6) hc94_7).symm.trans hres), hlo, e5⟩ (by decide) (by decide)
        · refine own_by (fun _ k => XS.ifYes X5.here hx rfl (pc0 := 94) (pc' := 108) rfl (hb hby d8_94) rfl ((if0 _ _).trans (flt (fun q => hc94_7 ((lw_lt _ _).mp q))).2.1) (by decide) (by decide) k) ?_
          show OEnds p e below s _ _ _ (T5.setTop (mkF m 108 #[.val (.ref a), .val (.long of), .second, .val (.long at_), .second, .val (.long bf_), .second, .val (.int ix5), .val (.long vx5), .second, .val (.int sx5), .val (.int bx5), .val (.long (hf v)), .second] []))
          refine own_by (fun _ k => XS.lloadN X5.here hx rfl (hb hby d8_108) rfl k) ?_
          show OEnds p e below s _ _ _ (T5.setTop (mkF m 109 #[.val (.ref a), .val (.long of), .second, .val (.long at_), .second, .val (.long bf_), .second, .val (.int ix5), .val (.long vx5), .second, .val (.int sx5), .val (.int bx5), .val (.long (hf v)), .second] [(.long at_)]))
          refine own_by (X5.ldc2Long hx hown (mvT hZ (hw _ (List.mem_of_getElem? (i := 49) rfl))) (g := (mkF m 109 #[.val (.ref a), .val (.long of), .second, .val (.long at_), .second, .val (.long bf_), .second, .val (.int ix5), .val (.long vx5), .second, .val (.int sx5), .val (.int bx5), .val (.long (hf v)), .second] [(.long at_)])) rfl (hb hby d8_109)) ?_
          show OEnds p e below s _ _ _ (T5.setTop (mkF m 112 #[.val (.ref a), .val (.long of), .second, .val (.long at_), .second, .val (.long bf_), .second, .val (.int ix5), .val (.long vx5), .second, .val (.int sx5), .val (.int bx5), .val (.long (hf v)), .second] [(.long (4 : Int64)), (.long at_)]))
          refine own_by (fun _ k => XS.lload X5.here hx rfl (hb hby d8_112) rfl k) ?_
          show OEnds p e below s _ _ _ (T5.setTop (mkF m 114 #[.val (.ref a), .val (.long of), .second, .val (.long at_), .second, .val (.long bf_), .second, .val (.int ix5), .val (.long vx5), .second, .val (.int sx5), .val (.int bx5), .val (.long (hf v)), .second] [(.long (hf v)), (.long (4 : Int64)), (.long at_)]))
          refine own_by (fun _ k => XS.ladd X5.here hx rfl (hb hby d8_114) rfl k) ?_
          show OEnds p e below s _ _ _ (T5.setTop (mkF m 115 #[.val (.ref a), .val (.long of), .second, .val (.long at_), .second, .val (.long bf_), .second, .val (.int ix5), .val (.long vx5), .second, .val (.int sx5), .val (.int bx5), .val (.long (hf v)), .second] [(.long ((4 : Int64) + (hf v))), (.long at_)]))
          refine own_by (fun _ k => XS.ladd X5.here hx rfl (hb hby d8_115) rfl k) ?_
          show OEnds p e below s _ _ _ (T5.setTop (mkF m 116 #[.val (.ref a), .val (.long of), .second, .val (.long at_), .second, .val (.long bf_), .second, .val (.int ix5), .val (.long vx5), .second, .val (.int sx5), .val (.int bx5), .val (.long (hf v)), .second] [(.long (at_ + ((4 : Int64) + (hf v))))]))
          refine own_by (fun _ k => XS.lstoreN X5.here hx rfl (hb hby d8_116) rfl (l' := #[.val (.ref a), .val (.long of), .second, .val (.long (at_ + ((4 : Int64) + (hf v)))), .second, .val (.long bf_), .second, .val (.int ix5), .val (.long vx5), .second, .val (.int sx5), .val (.int bx5), .val (.long (hf v)), .second]) rfl k) ?_
          show OEnds p e below s _ _ _ (T5.setTop (mkF m 117 #[.val (.ref a), .val (.long of), .second, .val (.long (at_ + ((4 : Int64) + (hf v)))), .second, .val (.long bf_), .second, .val (.int ix5), .val (.long vx5), .second, .val (.int sx5), .val (.int bx5), .val (.long (hf v)), .second] []))
          refine own_by (fun _ k => XS.lload X5.here hx rfl (hb hby d8_117) rfl k) ?_
          show OEnds p e below s _ _ _ (T5.setTop (mkF m 119 #[.val (.ref a), .val (.long of), .second, .val (.long (at_ + ((4 : Int64) + (hf v)))), .second, .val (.long bf_), .second, .val (.int ix5), .val (.long vx5), .second, .val (.int sx5), .val (.int bx5), .val (.long (hf v)), .second] [(.long bf_)]))
          refine own_by (fun _ k => XS.lload X5.here hx rfl (hb hby d8_119) rfl k) ?_
          show OEnds p e below s _ _ _ (T5.setTop (mkF m 121 #[.val (.ref a), .val (.long of), .second, .val (.long (at_ + ((4 : Int64) + (hf v)))), .second, .val (.long bf_), .second, .val (.int ix5), .val (.long vx5), .second, .val (.int sx5), .val (.int bx5), .val (.long (hf v)), .second] [(.long (hf v)), (.long bf_)]))
          refine own_by (fun _ k => XS.ladd X5.here hx rfl (hb hby d8_121) rfl k) ?_
          show OEnds p e below s _ _ _ (T5.setTop (mkF m 122 #[.val (.ref a), .val (.long of), .second, .val (.long (at_ + ((4 : Int64) + (hf v)))), .second, .val (.long bf_), .second, .val (.int ix5), .val (.long vx5), .second, .val (.int sx5), .val (.int bx5), .val (.long (hf v)), .second] [(.long (bf_ + (hf v)))]))
          refine own_by (fun _ k => XS.lstore X5.here hx rfl (hb hby d8_122) rfl (l' := #[.val (.ref a), .val (.long of), .second, .val (.long (at_ + ((4 : Int64) + (hf v)))), .second, .val (.long (bf_ + (hf v))), .second, .val (.int ix5), .val (.long vx5), .second, .val (.int sx5), .val (.int bx5), .val (.long (hf v)), .second]) rfl k) ?_
          show OEnds p e below s _ _ _ (T5.setTop (mkF m 124 #[.val (.ref a), .val (.long of), .second, .val (.long (at_ + ((4 : Int64) + (hf v)))), .second, .val (.long (bf_ + (hf v))), .second, .val (.int ix5), .val (.long vx5), .second, .val (.int sx5), .val (.int bx5), .val (.long (hf v)), .second] []))
          refine own_by (fun _ k => XS.goto X5.here hx rfl (pc0 := 124) (pc' := 11) rfl (hb hby d8_124) (by decide) (by decide) k) ?_
          show OEnds p e below s _ _ _ (T5.setTop (mkF m 11 #[.val (.ref a), .val (.long of), .second, .val (.long (at_ + ((4 : Int64) + (hf v)))), .second, .val (.long (bf_ + (hf v))), .second, .val (.int ix5), .val (.long vx5), .second, .val (.int sx5), .val (.int bx5), .val (.long (hf v)), .second] []))
          exact ih_o11 T5 _ (at_ + ((4 : Int64) + (hf v))) (bf_ + (hf v)) ix5 vx5 sx5 bx5 (hf v) _ X5 e5 N_o11 hlo hix hEr ((scan_even (even_of hvx hc72_6) hc94_7).symm.trans hres)
      · refine own_by (fun _ k => XS.ifNo X5.here hx rfl (hb hby d8_72) rfl ((if0 _ _).trans (feq (fun q => hc72_6 ((lw_eq _ _).mp q))).1) k) ?_
        show OEnds p e below s _ _ _ (T5.setTop (mkF m 75 #[.val (.ref a), .val (.long of), .second, .val (.long at_), .second, .val (.long bf_), .second, .val (.int ix5), .val (.long vx5), .second, .val (.int sx5), .val (.int bx5), .val (.long (hf v)), .second] []))
        refine own_by (fun _ k => XS.lloadN X5.here hx rfl (hb hby d8_75) rfl k) ?_
        show OEnds p e below s _ _ _ (T5.setTop (mkF m 76 #[.val (.ref a), .val (.long of), .second, .val (.long at_), .second, .val (.long bf_), .second, .val (.int ix5), .val (.long vx5), .second, .val (.int sx5), .val (.int bx5), .val (.long (hf v)), .second] [(.long at_)]))
        refine own_by (fun _ k => XS.lload X5.here hx rfl (hb hby d8_76) rfl k) ?_
        show OEnds p e below s _ _ _ (T5.setTop (mkF m 78 #[.val (.ref a), .val (.long of), .second, .val (.long at_), .second, .val (.long bf_), .second, .val (.int ix5), .val (.long vx5), .second, .val (.int sx5), .val (.int bx5), .val (.long (hf v)), .second] [(.long (hf v)), (.long at_)]))
        refine own_by (X5.ldc2Long hx hown (mvT hZ (hw _ (List.mem_of_getElem? (i := 49) rfl))) (g := (mkF m 78 #[.val (.ref a), .val (.long of), .second, .val (.long at_), .second, .val (.long bf_), .second, .val (.int ix5), .val (.long vx5), .second, .val (.int sx5), .val (.int bx5), .val (.long (hf v)), .second] [(.long (hf v)), (.long at_)])) rfl (hb hby d8_78)) ?_
        show OEnds p e below s _ _ _ (T5.setTop (mkF m 81 #[.val (.ref a), .val (.long of), .second, .val (.long at_), .second, .val (.long bf_), .second, .val (.int ix5), .val (.long vx5), .second, .val (.int sx5), .val (.int bx5), .val (.long (hf v)), .second] [(.long (4 : Int64)), (.long (hf v)), (.long at_)]))
        refine own_by (fun _ k => XS.lmul X5.here hx rfl (hb hby d8_81) rfl k) ?_
        show OEnds p e below s _ _ _ (T5.setTop (mkF m 82 #[.val (.ref a), .val (.long of), .second, .val (.long at_), .second, .val (.long bf_), .second, .val (.int ix5), .val (.long vx5), .second, .val (.int sx5), .val (.int bx5), .val (.long (hf v)), .second] [(.long ((hf v) * (4 : Int64))), (.long at_)]))
        refine own_by (fun _ k => XS.ladd X5.here hx rfl (hb hby d8_82) rfl k) ?_
        show OEnds p e below s _ _ _ (T5.setTop (mkF m 83 #[.val (.ref a), .val (.long of), .second, .val (.long at_), .second, .val (.long bf_), .second, .val (.int ix5), .val (.long vx5), .second, .val (.int sx5), .val (.int bx5), .val (.long (hf v)), .second] [(.long (at_ + ((hf v) * (4 : Int64))))]))
        refine own_by (fun _ k => XS.lstoreN X5.here hx rfl (hb hby d8_83) rfl (l' := #[.val (.ref a), .val (.long of), .second, .val (.long (at_ + ((hf v) * (4 : Int64)))), .second, .val (.long bf_), .second, .val (.int ix5), .val (.long vx5), .second, .val (.int sx5), .val (.int bx5), .val (.long (hf v)), .second]) rfl k) ?_
        show OEnds p e below s _ _ _ (T5.setTop (mkF m 84 #[.val (.ref a), .val (.long of), .second, .val (.long (at_ + ((hf v) * (4 : Int64)))), .second, .val (.long bf_), .second, .val (.int ix5), .val (.long vx5), .second, .val (.int sx5), .val (.int bx5), .val (.long (hf v)), .second] []))
        refine own_by (fun _ k => XS.goto X5.here hx rfl (pc0 := 84) (pc' := 124) rfl (hb hby d8_84) (by decide) (by decide) k) ?_
        show OEnds p e below s _ _ _ (T5.setTop (mkF m 124 #[.val (.ref a), .val (.long of), .second, .val (.long (at_ + ((hf v) * (4 : Int64)))), .second, .val (.long bf_), .second, .val (.int ix5), .val (.long vx5), .second, .val (.int sx5), .val (.int bx5), .val (.long (hf v)), .second] []))
        refine own_by (fun _ k => XS.goto X5.here hx rfl (pc0 := 124) (pc' := 11) rfl (hb hby d8_124) (by decide) (by decide) k) ?_
        show OEnds p e below s _ _ _ (T5.setTop (mkF m 11 #[.val (.ref a), .val (.long of), .second, .val (.long (at_ + ((hf v) * (4 : Int64)))), .second, .val (.long bf_), .second, .val (.int ix5), .val (.long vx5), .second, .val (.int sx5), .val (.int bx5), .val (.long (hf v)), .second] []))
        exact ih_o11 T5 _ (at_ + ((hf v) * (4 : Int64))) bf_ ix5 vx5 sx5 bx5 (hf v) _ X5 e5 N_o11 hlo hix hEr ((scan_odd (odd_of hvx hc72_6)).symm.trans hres)
  cases vs0 with
  | nil =>
    have hlo : ([] : List Loc) = [] := rfl
    have hii : (0 : Int32).toInt = ((0 : Nat) : Int) := by decide
    have hEn := hEn0
    have hres : scanF [] sv (0 : Int64) of em = scanF [] sv (0 : Int64) of em := rfl
    obtain ⟨i, ei⟩ : ∃ i, i = 0 := ⟨0, rfl⟩
    rw [← ei] at hii hEn
    have hik : i = k := hEn
    refine own_by (fun _ k => XS.iload X1.here hx rfl (hb hby d8_11) rfl k) ?_
    show OEnds p e below s _ _ _ (T1.setTop (mkF m 13 #[.val (.ref a), .val (.long of), .second, .val (.long sv), .second, .val (.long (0 : Int64)), .second, .val (.int (0 : Int32)), .unset, .unset, .unset, .unset, .unset, .unset] [(.int (0 : Int32))]))
    refine own_by (fun _ k => XS.aloadN X1.here hx rfl (hb hby d8_13) rfl rfl k) ?_
    show OEnds p e below s _ _ _ (T1.setTop (mkF m 14 #[.val (.ref a), .val (.long of), .second, .val (.long sv), .second, .val (.long (0 : Int64)), .second, .val (.int (0 : Int32)), .unset, .unset, .unset, .unset, .unset, .unset] [(.ref a), (.int (0 : Int32))]))
    obtain ⟨T8, X8, e8, st8⟩ := getF X1 hx hZ hown (host := "") (Or.inl (hw _ (List.mem_of_getElem? (i := 23) rfl))) Via.refl e1 (O0.fld 2 rfl rfl) (g := (mkF m 14 #[.val (.ref a), .val (.long of), .second, .val (.long sv), .second, .val (.long (0 : Int64)), .second, .val (.int (0 : Int32)), .unset, .unset, .unset, .unset, .unset, .unset] [(.ref a), (.int (0 : Int32))])) rfl rfl (hb hby d8_14)
    refine own_by (st8) ?_
    show OEnds p e below s _ _ _ (T8.setTop (mkF m 17 #[.val (.ref a), .val (.long of), .second, .val (.long sv), .second, .val (.long (0 : Int64)), .second, .val (.int (0 : Int32)), .unset, .unset, .unset, .unset, .unset, .unset] [(.int sz), (.int (0 : Int32))]))
    refine own_by (fun _ k => XS.icmpYes X8.here hx rfl (pc0 := 17) (pc' := 127) rfl (hb hby d8_17) rfl (flt (at_end hii hk hik)).2.1 (by decide) (by decide) k) ?_
    show OEnds p e below s _ _ _ (T8.setTop (mkF m 127 #[.val (.ref a), .val (.long of), .second, .val (.long sv), .second, .val (.long (0 : Int64)), .second, .val (.int (0 : Int32)), .unset, .unset, .unset, .unset, .unset, .unset] []))
    refine own_by (fun _ k => XS.lloadN X8.here hx rfl (hb hby d8_127) rfl k) ?_
    show OEnds p e below s _ _ _ (T8.setTop (mkF m 128 #[.val (.ref a), .val (.long of), .second, .val (.long sv), .second, .val (.long (0 : Int64)), .second, .val (.int (0 : Int32)), .unset, .unset, .unset, .unset, .unset, .unset] [(.long sv)]))
    refine own_by (fun _ k => XS.aloadN X8.here hx rfl (hb hby d8_128) rfl rfl k) ?_
    show OEnds p e below s _ _ _ (T8.setTop (mkF m 129 #[.val (.ref a), .val (.long of), .second, .val (.long sv), .second, .val (.long (0 : Int64)), .second, .val (.int (0 : Int32)), .unset, .unset, .unset, .unset, .unset, .unset] [(.ref a), (.long sv)]))
    obtain ⟨T9, X9, e9, st9⟩ := getF X8 hx hZ hown (host := "") (Or.inl (hw _ (List.mem_of_getElem? (i := 25) rfl))) Via.refl e8 (O0.fld 3 rfl rfl) (g := (mkF m 129 #[.val (.ref a), .val (.long of), .second, .val (.long sv), .second, .val (.long (0 : Int64)), .second, .val (.int (0 : Int32)), .unset, .unset, .unset, .unset, .unset, .unset] [(.ref a), (.long sv)])) rfl rfl (hb hby d8_129)
    refine own_by (st9) ?_
    show OEnds p e below s _ _ _ (T9.setTop (mkF m 132 #[.val (.ref a), .val (.long of), .second, .val (.long sv), .second, .val (.long (0 : Int64)), .second, .val (.int (0 : Int32)), .unset, .unset, .unset, .unset, .unset, .unset] [(.long em), (.long sv)]))
    refine own_by (X9.ldc2Long hx hown (mvT hZ (hw _ (List.mem_of_getElem? (i := 49) rfl))) (g := (mkF m 132 #[.val (.ref a), .val (.long of), .second, .val (.long sv), .second, .val (.long (0 : Int64)), .second, .val (.int (0 : Int32)), .unset, .unset, .unset, .unset, .unset, .unset] [(.long em), (.long sv)])) rfl (hb hby d8_132)) ?_
    show OEnds p e below s _ _ _ (T9.setTop (mkF m 135 #[.val (.ref a), .val (.long of), .second, .val (.long sv), .second, .val (.long (0 : Int64)), .second, .val (.int (0 : Int32)), .unset, .unset, .unset, .unset, .unset, .unset] [(.long (4 : Int64)), (.long em), (.long sv)]))
    refine own_by (fun _ k => XS.lmul X9.here hx rfl (hb hby d8_135) rfl k) ?_
    show OEnds p e below s _ _ _ (T9.setTop (mkF m 136 #[.val (.ref a), .val (.long of), .second, .val (.long sv), .second, .val (.long (0 : Int64)), .second, .val (.int (0 : Int32)), .unset, .unset, .unset, .unset, .unset, .unset] [(.long (em * (4 : Int64))), (.long sv)]))
    refine own_by (fun _ k => XS.ladd X9.here hx rfl (hb hby d8_136) rfl k) ?_
    show OEnds p e below s _ _ _ (T9.setTop (mkF m 137 #[.val (.ref a), .val (.long of), .second, .val (.long sv), .second, .val (.long (0 : Int64)), .second, .val (.int (0 : Int32)), .unset, .unset, .unset, .unset, .unset, .unset] [(.long (sv + (em * (4 : Int64))))]))
    exact own_retJ X9 hx hlk Bd.returns (hb hby d8_137) ⟨congrArg (fun z => some (Value.long z)) (hres), hlo, e9⟩ (by decide) (by decide)
  | cons v vs =>
    have hlo : ([] : List Loc) = [] := rfl
    have hii : (0 : Int32).toInt = ((0 : Nat) : Int) := by decide
    have hEn := hEn0
    have hres : scanF (v :: vs) sv (0 : Int64) of em = scanF (v :: vs) sv (0 : Int64) of em := rfl
    obtain ⟨i, ei⟩ : ∃ i, i = 0 := ⟨0, rfl⟩
    rw [← ei] at hii hEn
    obtain ⟨bs0, hE0, hb5, hf0, hEr⟩ := hEn
    have hle0 := encat_le hEr
    have hpos0 := enc_pos hE0
    have hv35 := enc_lt hE0 hb5
    refine own_by (fun _ k => XS.iload X1.here hx rfl (hb hby d8_11) rfl k) ?_
    show OEnds p e below s _ _ _ (T1.setTop (mkF m 13 #[.val (.ref a), .val (.long of), .second, .val (.long sv), .second, .val (.long (0 : Int64)), .second, .val (.int (0 : Int32)), .unset, .unset, .unset, .unset, .unset, .unset] [(.int (0 : Int32))]))
    refine own_by (fun _ k => XS.aloadN X1.here hx rfl (hb hby d8_13) rfl rfl k) ?_
    show OEnds p e below s _ _ _ (T1.setTop (mkF m 14 #[.val (.ref a), .val (.long of), .second, .val (.long sv), .second, .val (.long (0 : Int64)), .second, .val (.int (0 : Int32)), .unset, .unset, .unset, .unset, .unset, .unset] [(.ref a), (.int (0 : Int32))]))
    obtain ⟨T10, X10, e10, st10⟩ := getF X1 hx hZ hown (host := "") (Or.inl (hw _ (List.mem_of_getElem? (i := 23) rfl))) Via.refl e1 (O0.fld 2 rfl rfl) (g := (mkF m 14 #[.val (.ref a), .val (.long of), .second, .val (.long sv), .second, .val (.long (0 : Int64)), .second, .val (.int (0 : Int32)), .unset, .unset, .unset, .unset, .unset, .unset] [(.ref a), (.int (0 : Int32))])) rfl rfl (hb hby d8_14)
    refine own_by (st10) ?_
    show OEnds p e below s _ _ _ (T10.setTop (mkF m 17 #[.val (.ref a), .val (.long of), .second, .val (.long sv), .second, .val (.long (0 : Int64)), .second, .val (.int (0 : Int32)), .unset, .unset, .unset, .unset, .unset, .unset] [(.int sz), (.int (0 : Int32))]))
    refine own_by (fun _ k => XS.icmpNo X10.here hx rfl (hb hby d8_17) rfl (tlt (not_end hii hk (by omega))).2.1 k) ?_
    show OEnds p e below s _ _ _ (T10.setTop (mkF m 20 #[.val (.ref a), .val (.long of), .second, .val (.long sv), .second, .val (.long (0 : Int64)), .second, .val (.int (0 : Int32)), .unset, .unset, .unset, .unset, .unset, .unset] []))
    refine own_by (fun _ k => XS.lconst X10.here hx rfl (hb hby d8_20) k) ?_
    show OEnds p e below s _ _ _ (T10.setTop (mkF m 21 #[.val (.ref a), .val (.long of), .second, .val (.long sv), .second, .val (.long (0 : Int64)), .second, .val (.int (0 : Int32)), .unset, .unset, .unset, .unset, .unset, .unset] [(.long (0 : Int64))]))
    refine own_by (fun _ k => XS.lstore X10.here hx rfl (hb hby d8_21) rfl (l' := #[.val (.ref a), .val (.long of), .second, .val (.long sv), .second, .val (.long (0 : Int64)), .second, .val (.int (0 : Int32)), .val (.long (0 : Int64)), .second, .unset, .unset, .unset, .unset]) rfl k) ?_
    show OEnds p e below s _ _ _ (T10.setTop (mkF m 23 #[.val (.ref a), .val (.long of), .second, .val (.long sv), .second, .val (.long (0 : Int64)), .second, .val (.int (0 : Int32)), .val (.long (0 : Int64)), .second, .unset, .unset, .unset, .unset] []))
    refine own_by (fun _ k => XS.iconst X10.here hx rfl (hb hby d8_23) k) ?_
    show OEnds p e below s _ _ _ (T10.setTop (mkF m 24 #[.val (.ref a), .val (.long of), .second, .val (.long sv), .second, .val (.long (0 : Int64)), .second, .val (.int (0 : Int32)), .val (.long (0 : Int64)), .second, .unset, .unset, .unset, .unset] [(.int (0 : Int32))]))
    refine own_by (fun _ k => XS.istore X10.here hx rfl (hb hby d8_24) rfl (l' := #[.val (.ref a), .val (.long of), .second, .val (.long sv), .second, .val (.long (0 : Int64)), .second, .val (.int (0 : Int32)), .val (.long (0 : Int64)), .second, .val (.int (0 : Int32)), .unset, .unset, .unset]) rfl k) ?_
    show OEnds p e below s _ _ _ (T10.setTop (mkF m 26 #[.val (.ref a), .val (.long of), .second, .val (.long sv), .second, .val (.long (0 : Int64)), .second, .val (.int (0 : Int32)), .val (.long (0 : Int64)), .second, .val (.int (0 : Int32)), .unset, .unset, .unset] []))
    obtain ⟨b0, bs1, rfl⟩ : ∃ b0 bs1, bs0 = b0 :: bs1 := by
      cases bs0 with
      | nil => exact absurd hE0 (by simp [Enc])
      | cons x y => exact ⟨x, y, rfl⟩
    refine in26u (G := OEnds p e below s _ 0 0) (fun _ _ => own_by) hx hZ hw hby hml hown a of b sv sz em f nn sv (0 : Int64) v (i + (b0 :: bs1).length) (.unset) (.unset) b0 bs1 h0 T10 _ (0 : Int32) (0 : Int64) (0 : Int32) i v 0 0 X10 e10 O0 F0 hii (fun j hj => hf0 j hj) hE0 (by decide) (by decide) (by decide) (by simp) (by omega) rfl (by omega) hnn ?_
    intro T11 vx11 sx11 bx11 ix11 X11 e11 hvx hix
    show OEnds p e below s _ _ _ (T11.setTop (mkF m 60 #[.val (.ref a), .val (.long of), .second, .val (.long sv), .second, .val (.long (0 : Int64)), .second, .val (.int ix11), .val (.long vx11), .second, .val (.int sx11), .val (.int bx11), .unset, .unset] []))
    refine own_by (fun _ k => XS.lload X11.here hx rfl (hb hby d8_60) rfl k) ?_
    show OEnds p e below s _ _ _ (T11.setTop (mkF m 62 #[.val (.ref a), .val (.long of), .second, .val (.long sv), .second, .val (.long (0 : Int64)), .second, .val (.int ix11), .val (.long vx11), .second, .val (.int sx11), .val (.int bx11), .unset, .unset] [(.long vx11)]))
    refine own_by (fun _ k => XS.iconst X11.here hx rfl (hb hby d8_62) k) ?_
    show OEnds p e below s _ _ _ (T11.setTop (mkF m 63 #[.val (.ref a), .val (.long of), .second, .val (.long sv), .second, .val (.long (0 : Int64)), .second, .val (.int ix11), .val (.long vx11), .second, .val (.int sx11), .val (.int bx11), .unset, .unset] [(.int (1 : Int32)), (.long vx11)]))
    refine own_by (fun _ k => XS.lushr X11.here hx rfl (hb hby d8_63) rfl k) ?_
    show OEnds p e below s _ _ _ (T11.setTop (mkF m 64 #[.val (.ref a), .val (.long of), .second, .val (.long sv), .second, .val (.long (0 : Int64)), .second, .val (.int ix11), .val (.long vx11), .second, .val (.int sx11), .val (.int bx11), .unset, .unset] [(.long ((vx11.toUInt64 >>> ((1 : Int32) &&& 0x3f).toInt64.toUInt64).toInt64))]))
    refine own_by (fun _ k => XS.lstore X11.here hx rfl (hb hby d8_64) rfl (l' := #[.val (.ref a), .val (.long of), .second, .val (.long sv), .second, .val (.long (0 : Int64)), .second, .val (.int ix11), .val (.long vx11), .second, .val (.int sx11), .val (.int bx11), .val (.long ((vx11.toUInt64 >>> ((1 : Int32) &&& 0x3f).toInt64.toUInt64).toInt64)), .second]) rfl k) ?_
    show OEnds p e below s _ _ _ (T11.setTop (mkF m 66 #[.val (.ref a), .val (.long of), .second, .val (.long sv), .second, .val (.long (0 : Int64)), .second, .val (.int ix11), .val (.long vx11), .second, .val (.int sx11), .val (.int bx11), .val (.long ((vx11.toUInt64 >>> ((1 : Int32) &&& 0x3f).toInt64.toUInt64).toInt64)), .second] []))
    have hnh := half hvx hv35
    rw [hnh]
    show OEnds p e below s _ _ _ (T11.setTop (mkF m 66 #[.val (.ref a), .val (.long of), .second, .val (.long sv), .second, .val (.long (0 : Int64)), .second, .val (.int ix11), .val (.long vx11), .second, .val (.int sx11), .val (.int bx11), .val (.long (hf v)), .second] []))
    refine own_by (fun _ k => XS.lload X11.here hx rfl (hb hby d8_66) rfl k) ?_
    show OEnds p e below s _ _ _ (T11.setTop (mkF m 68 #[.val (.ref a), .val (.long of), .second, .val (.long sv), .second, .val (.long (0 : Int64)), .second, .val (.int ix11), .val (.long vx11), .second, .val (.int sx11), .val (.int bx11), .val (.long (hf v)), .second] [(.long vx11)]))
    refine own_by (fun _ k => XS.lconst X11.here hx rfl (hb hby d8_68) k) ?_
    show OEnds p e below s _ _ _ (T11.setTop (mkF m 69 #[.val (.ref a), .val (.long of), .second, .val (.long sv), .second, .val (.long (0 : Int64)), .second, .val (.int ix11), .val (.long vx11), .second, .val (.int sx11), .val (.int bx11), .val (.long (hf v)), .second] [(.long (1 : Int64)), (.long vx11)]))
    refine own_by (fun _ k => XS.land X11.here hx rfl (hb hby d8_69) rfl k) ?_
    show OEnds p e below s _ _ _ (T11.setTop (mkF m 70 #[.val (.ref a), .val (.long of), .second, .val (.long sv), .second, .val (.long (0 : Int64)), .second, .val (.int ix11), .val (.long vx11), .second, .val (.int sx11), .val (.int bx11), .val (.long (hf v)), .second] [(.long (vx11 &&& (1 : Int64)))]))
    refine own_by (fun _ k => XS.lconst X11.here hx rfl (hb hby d8_70) k) ?_
    show OEnds p e below s _ _ _ (T11.setTop (mkF m 71 #[.val (.ref a), .val (.long of), .second, .val (.long sv), .second, .val (.long (0 : Int64)), .second, .val (.int ix11), .val (.long vx11), .second, .val (.int sx11), .val (.int bx11), .val (.long (hf v)), .second] [(.long (0 : Int64)), (.long (vx11 &&& (1 : Int64)))]))
    refine own_by (fun _ k => XS.lcmp X11.here hx rfl (hb hby d8_71) rfl k) ?_
    show OEnds p e below s _ _ _ (T11.setTop (mkF m 72 #[.val (.ref a), .val (.long of), .second, .val (.long sv), .second, .val (.long (0 : Int64)), .second, .val (.int ix11), .val (.long vx11), .second, .val (.int sx11), .val (.int bx11), .val (.long (hf v)), .second] [(.int (lcmpW (vx11 &&& (1 : Int64)) (0 : Int64)))]))
    by_cases hc72_12 : (vx11 &&& (1 : Int64)) = (0 : Int64)
    · refine own_by (fun _ k => XS.ifYes X11.here hx rfl (pc0 := 72) (pc' := 87) rfl (hb hby d8_72) rfl ((if0 _ _).trans (teq ((lw_eq _ _).mpr hc72_12)).1) (by decide) (by decide) k) ?_
      show OEnds p e below s _ _ _ (T11.setTop (mkF m 87 #[.val (.ref a), .val (.long of), .second, .val (.long sv), .second, .val (.long (0 : Int64)), .second, .val (.int ix11), .val (.long vx11), .second, .val (.int sx11), .val (.int bx11), .val (.long (hf v)), .second] []))
      refine own_by (fun _ k => XS.lloadN X11.here hx rfl (hb hby d8_87) rfl k) ?_
      show OEnds p e below s _ _ _ (T11.setTop (mkF m 88 #[.val (.ref a), .val (.long of), .second, .val (.long sv), .second, .val (.long (0 : Int64)), .second, .val (.int ix11), .val (.long vx11), .second, .val (.int sx11), .val (.int bx11), .val (.long (hf v)), .second] [(.long of)]))
      refine own_by (fun _ k => XS.lload X11.here hx rfl (hb hby d8_88) rfl k) ?_
      show OEnds p e below s _ _ _ (T11.setTop (mkF m 90 #[.val (.ref a), .val (.long of), .second, .val (.long sv), .second, .val (.long (0 : Int64)), .second, .val (.int ix11), .val (.long vx11), .second, .val (.int sx11), .val (.int bx11), .val (.long (hf v)), .second] [(.long (0 : Int64)), (.long of)]))
      refine own_by (fun _ k => XS.lload X11.here hx rfl (hb hby d8_90) rfl k) ?_
      show OEnds p e below s _ _ _ (T11.setTop (mkF m 92 #[.val (.ref a), .val (.long of), .second, .val (.long sv), .second, .val (.long (0 : Int64)), .second, .val (.int ix11), .val (.long vx11), .second, .val (.int sx11), .val (.int bx11), .val (.long (hf v)), .second] [(.long (hf v)), (.long (0 : Int64)), (.long of)]))
      refine own_by (fun _ k => XS.ladd X11.here hx rfl (hb hby d8_92) rfl k) ?_
      show OEnds p e below s _ _ _ (T11.setTop (mkF m 93 #[.val (.ref a), .val (.long of), .second, .val (.long sv), .second, .val (.long (0 : Int64)), .second, .val (.int ix11), .val (.long vx11), .second, .val (.int sx11), .val (.int bx11), .val (.long (hf v)), .second] [(.long ((0 : Int64) + (hf v))), (.long of)]))
      refine own_by (fun _ k => XS.lcmp X11.here hx rfl (hb hby d8_93) rfl k) ?_
      show OEnds p e below s _ _ _ (T11.setTop (mkF m 94 #[.val (.ref a), .val (.long of), .second, .val (.long sv), .second, .val (.long (0 : Int64)), .second, .val (.int ix11), .val (.long vx11), .second, .val (.int sx11), .val (.int bx11), .val (.long (hf v)), .second] [(.int (lcmpW of ((0 : Int64) + (hf v))))]))
      by_cases hc94_13 : of < ((0 : Int64) + (hf v))
      · refine own_by (fun _ k => XS.ifNo X11.here hx rfl (hb hby d8_94) rfl ((if0 _ _).trans (tlt ((lw_lt _ _).mpr hc94_13)).2.1) k) ?_
        show OEnds p e below s _ _ _ (T11.setTop (mkF m 97 #[.val (.ref a), .val (.long of), .second, .val (.long sv), .second, .val (.long (0 : Int64)), .second, .val (.int ix11), .val (.long vx11), .second, .val (.int sx11), .val (.int bx11), .val (.long (hf v)), .second] []))
        refine own_by (fun _ k => XS.lloadN X11.here hx rfl (hb hby d8_97) rfl k) ?_
        show OEnds p e below s _ _ _ (T11.setTop (mkF m 98 #[.val (.ref a), .val (.long of), .second, .val (.long sv), .second, .val (.long (0 : Int64)), .second, .val (.int ix11), .val (.long vx11), .second, .val (.int sx11), .val (.int bx11), .val (.long (hf v)), .second] [(.long sv)]))
        refine own_by (X11.ldc2Long hx hown (mvT hZ (hw _ (List.mem_of_getElem? (i := 49) rfl))) (g := (mkF m 98 #[.val (.ref a), .val (.long of), .second, .val (.long sv), .second, .val (.long (0 : Int64)), .second, .val (.int ix11), .val (.long vx11), .second, .val (.int sx11), .val (.int bx11), .val (.long (hf v)), .second] [(.long sv)])) rfl (hb hby d8_98)) ?_
        show OEnds p e below s _ _ _ (T11.setTop (mkF m 101 #[.val (.ref a), .val (.long of), .second, .val (.long sv), .second, .val (.long (0 : Int64)), .second, .val (.int ix11), .val (.long vx11), .second, .val (.int sx11), .val (.int bx11), .val (.long (hf v)), .second] [(.long (4 : Int64)), (.long sv)]))
        refine own_by (fun _ k => XS.ladd X11.here hx rfl (hb hby d8_101) rfl k) ?_
        show OEnds p e below s _ _ _ (T11.setTop (mkF m 102 #[.val (.ref a), .val (.long of), .second, .val (.long sv), .second, .val (.long (0 : Int64)), .second, .val (.int ix11), .val (.long vx11), .second, .val (.int sx11), .val (.int bx11), .val (.long (hf v)), .second] [(.long (sv + (4 : Int64)))]))
        refine own_by (fun _ k => XS.lloadN X11.here hx rfl (hb hby d8_102) rfl k) ?_
        show OEnds p e below s _ _ _ (T11.setTop (mkF m 103 #[.val (.ref a), .val (.long of), .second, .val (.long sv), .second, .val (.long (0 : Int64)), .second, .val (.int ix11), .val (.long vx11), .second, .val (.int sx11), .val (.int bx11), .val (.long (hf v)), .second] [(.long of), (.long (sv + (4 : Int64)))]))
        refine own_by (fun _ k => XS.ladd X11.here hx rfl (hb hby d8_103) rfl k) ?_
        show OEnds p e below s _ _ _ (T11.setTop (mkF m 104 #[.val (.ref a), .val (.long of), .second, .val (.long sv), .second, .val (.long (0 : Int64)), .second, .val (.int ix11), .val (.long vx11), .second, .val (.int sx11), .val (.int bx11), .val (.long (hf v)), .second] [(.long ((sv + (4 : Int64)) + of))]))
        refine own_by (fun _ k => XS.lload X11.here hx rfl (hb hby d8_104) rfl k) ?_
        show OEnds p e below s _ _ _ (T11.setTop (mkF m 106 #[.val (.ref a), .val (.long of), .second, .val (.long sv), .second, .val (.long (0 : Int64)), .second, .val (.int ix11), .val (.long vx11), .second, .val (.int sx11), .val (.int bx11), .val (.long (hf v)), .second] [(.long (0 : Int64)), (.long ((sv + (4 : Int64)) + of))]))
        refine own_by (fun _ k => XS.lsub X11.here hx rfl (hb hby d8_106) rfl k) ?_
        show OEnds p e below s _ _ _ (T11.setTop (mkF m 107 #[.val (.ref a), .val (.long of), .second, .val (.long sv), .second, .val (.long (0 : Int64)), .second, .val (.int ix11), .val (.long vx11), .second, .val (.int sx11), .val (.int bx11), .val (.long (hf v)), .second] [(.long (((sv + (4 : Int64)) + of) - (0 : Int64)))]))
        exact own_retJ X11 hx hlk Bd.returns (hb hby d8_107) ⟨congrArg (fun z => some (Value.long z)) ((scan_hit (even_of hvx hc72_12) hc94_13).symm.trans hres), hlo, e11⟩ (by decide) (by decide)
      · refine own_by (fun _ k => XS.ifYes X11.here hx rfl (pc0 := 94) (pc' := 108) rfl (hb hby d8_94) rfl ((if0 _ _).trans (flt (fun q => hc94_13 ((lw_lt _ _).mp q))).2.1) (by decide) (by decide) k) ?_
        show OEnds p e below s _ _ _ (T11.setTop (mkF m 108 #[.val (.ref a), .val (.long of), .second, .val (.long sv), .second, .val (.long (0 : Int64)), .second, .val (.int ix11), .val (.long vx11), .second, .val (.int sx11), .val (.int bx11), .val (.long (hf v)), .second] []))
        refine own_by (fun _ k => XS.lloadN X11.here hx rfl (hb hby d8_108) rfl k) ?_
        show OEnds p e below s _ _ _ (T11.setTop (mkF m 109 #[.val (.ref a), .val (.long of), .second, .val (.long sv), .second, .val (.long (0 : Int64)), .second, .val (.int ix11), .val (.long vx11), .second, .val (.int sx11), .val (.int bx11), .val (.long (hf v)), .second] [(.long sv)]))
        refine own_by (X11.ldc2Long hx hown (mvT hZ (hw _ (List.mem_of_getElem? (i := 49) rfl))) (g := (mkF m 109 #[.val (.ref a), .val (.long of), .second, .val (.long sv), .second, .val (.long (0 : Int64)), .second, .val (.int ix11), .val (.long vx11), .second, .val (.int sx11), .val (.int bx11), .val (.long (hf v)), .second] [(.long sv)])) rfl (hb hby d8_109)) ?_
        show OEnds p e below s _ _ _ (T11.setTop (mkF m 112 #[.val (.ref a), .val (.long of), .second, .val (.long sv), .second, .val (.long (0 : Int64)), .second, .val (.int ix11), .val (.long vx11), .second, .val (.int sx11), .val (.int bx11), .val (.long (hf v)), .second] [(.long (4 : Int64)), (.long sv)]))
        refine own_by (fun _ k => XS.lload X11.here hx rfl (hb hby d8_112) rfl k) ?_
        show OEnds p e below s _ _ _ (T11.setTop (mkF m 114 #[.val (.ref a), .val (.long of), .second, .val (.long sv), .second, .val (.long (0 : Int64)), .second, .val (.int ix11), .val (.long vx11), .second, .val (.int sx11), .val (.int bx11), .val (.long (hf v)), .second] [(.long (hf v)), (.long (4 : Int64)), (.long sv)]))
        refine own_by (fun _ k => XS.ladd X11.here hx rfl (hb hby d8_114) rfl k) ?_
        show OEnds p e below s _ _ _ (T11.setTop (mkF m 115 #[.val (.ref a), .val (.long of), .second, .val (.long sv), .second, .val (.long (0 : Int64)), .second, .val (.int ix11), .val (.long vx11), .second, .val (.int sx11), .val (.int bx11), .val (.long (hf v)), .second] [(.long ((4 : Int64) + (hf v))), (.long sv)]))
        refine own_by (fun _ k => XS.ladd X11.here hx rfl (hb hby d8_115) rfl k) ?_
        show OEnds p e below s _ _ _ (T11.setTop (mkF m 116 #[.val (.ref a), .val (.long of), .second, .val (.long sv), .second, .val (.long (0 : Int64)), .second, .val (.int ix11), .val (.long vx11), .second, .val (.int sx11), .val (.int bx11), .val (.long (hf v)), .second] [(.long (sv + ((4 : Int64) + (hf v))))]))
        refine own_by (fun _ k => XS.lstoreN X11.here hx rfl (hb hby d8_116) rfl (l' := #[.val (.ref a), .val (.long of), .second, .val (.long (sv + ((4 : Int64) + (hf v)))), .second, .val (.long (0 : Int64)), .second, .val (.int ix11), .val (.long vx11), .second, .val (.int sx11), .val (.int bx11), .val (.long (hf v)), .second]) rfl k) ?_
        show OEnds p e below s _ _ _ (T11.setTop (mkF m 117 #[.val (.ref a), .val (.long of), .second, .val (.long (sv + ((4 : Int64) + (hf v)))), .second, .val (.long (0 : Int64)), .second, .val (.int ix11), .val (.long vx11), .second, .val (.int sx11), .val (.int bx11), .val (.long (hf v)), .second] []))
        refine own_by (fun _ k => XS.lload X11.here hx rfl (hb hby d8_117) rfl k) ?_
        show OEnds p e below s _ _ _ (T11.setTop (mkF m 119 #[.val (.ref a), .val (.long of), .second, .val (.long (sv + ((4 : Int64) + (hf v)))), .second, .val (.long (0 : Int64)), .second, .val (.int ix11), .val (.long vx11), .second, .val (.int sx11), .val (.int bx11), .val (.long (hf v)), .second] [(.long (0 : Int64))]))
        refine own_by (fun _ k => XS.lload X11.here hx rfl (hb hby d8_119) rfl k) ?_
        show OEnds p e below s _ _ _ (T11.setTop (mkF m 121 #[.val (.ref a), .val (.long of), .second, .val (.long (sv + ((4 : Int64) + (hf v)))), .second, .val (.long (0 : Int64)), .second, .val (.int ix11), .val (.long vx11), .second, .val (.int sx11), .val (.int bx11), .val (.long (hf v)), .second] [(.long (hf v)), (.long (0 : Int64))]))
        refine own_by (fun _ k => XS.ladd X11.here hx rfl (hb hby d8_121) rfl k) ?_
        show OEnds p e below s _ _ _ (T11.setTop (mkF m 122 #[.val (.ref a), .val (.long of), .second, .val (.long (sv + ((4 : Int64) + (hf v)))), .second, .val (.long (0 : Int64)), .second, .val (.int ix11), .val (.long vx11), .second, .val (.int sx11), .val (.int bx11), .val (.long (hf v)), .second] [(.long ((0 : Int64) + (hf v)))]))
        refine own_by (fun _ k => XS.lstore X11.here hx rfl (hb hby d8_122) rfl (l' := #[.val (.ref a), .val (.long of), .second, .val (.long (sv + ((4 : Int64) + (hf v)))), .second, .val (.long ((0 : Int64) + (hf v))), .second, .val (.int ix11), .val (.long vx11), .second, .val (.int sx11), .val (.int bx11), .val (.long (hf v)), .second]) rfl k) ?_
        show OEnds p e below s _ _ _ (T11.setTop (mkF m 124 #[.val (.ref a), .val (.long of), .second, .val (.long (sv + ((4 : Int64) + (hf v)))), .second, .val (.long ((0 : Int64) + (hf v))), .second, .val (.int ix11), .val (.long vx11), .second, .val (.int sx11), .val (.int bx11), .val (.long (hf v)), .second] []))
        refine own_by (fun _ k => XS.goto X11.here hx rfl (pc0 := 124) (pc' := 11) rfl (hb hby d8_124) (by decide) (by decide) k) ?_
        show OEnds p e below s _ _ _ (T11.setTop (mkF m 11 #[.val (.ref a), .val (.long of), .second, .val (.long (sv + ((4 : Int64) + (hf v)))), .second, .val (.long ((0 : Int64) + (hf v))), .second, .val (.int ix11), .val (.long vx11), .second, .val (.int sx11), .val (.int bx11), .val (.long (hf v)), .second] []))
        exact o11 vs T11 _ (sv + ((4 : Int64) + (hf v))) ((0 : Int64) + (hf v)) ix11 vx11 sx11 bx11 (hf v) _ X11 e11 N0 hlo hix hEr ((scan_even (even_of hvx hc72_12) hc94_13).symm.trans hres)
    · refine own_by (fun _ k => XS.ifNo X11.here hx rfl (hb hby d8_72) rfl ((if0 _ _).trans (feq (fun q => hc72_12 ((lw_eq _ _).mp q))).1) k) ?_
      show OEnds p e below s _ _ _ (T11.setTop (mkF m 75 #[.val (.ref a), .val (.long of), .second, .val (.long sv), .second, .val (.long (0 : Int64)), .second, .val (.int ix11), .val (.long vx11), .second, .val (.int sx11), .val (.int bx11), .val (.long (hf v)), .second] []))
      refine own_by (fun _ k => XS.lloadN X11.here hx rfl (hb hby d8_75) rfl k) ?_
      show OEnds p e below s _ _ _ (T11.setTop (mkF m 76 #[.val (.ref a), .val (.long of), .second, .val (.long sv), .second, .val (.long (0 : Int64)), .second, .val (.int ix11), .val (.long vx11), .second, .val (.int sx11), .val (.int bx11), .val (.long (hf v)), .second] [(.long sv)]))
      refine own_by (fun _ k => XS.lload X11.here hx rfl (hb hby d8_76) rfl k) ?_
      show OEnds p e below s _ _ _ (T11.setTop (mkF m 78 #[.val (.ref a), .val (.long of), .second, .val (.long sv), .second, .val (.long (0 : Int64)), .second, .val (.int ix11), .val (.long vx11), .second, .val (.int sx11), .val (.int bx11), .val (.long (hf v)), .second] [(.long (hf v)), (.long sv)]))
      refine own_by (X11.ldc2Long hx hown (mvT hZ (hw _ (List.mem_of_getElem? (i := 49) rfl))) (g := (mkF m 78 #[.val (.ref a), .val (.long of), .second, .val (.long sv), .second, .val (.long (0 : Int64)), .second, .val (.int ix11), .val (.long vx11), .second, .val (.int sx11), .val (.int bx11), .val (.long (hf v)), .second] [(.long (hf v)), (.long sv)])) rfl (hb hby d8_78)) ?_
      show OEnds p e below s _ _ _ (T11.setTop (mkF m 81 #[.val (.ref a), .val (.long of), .second, .val (.long sv), .second, .val (.long (0 : Int64)), .second, .val (.int ix11), .val (.long vx11), .second, .val (.int sx11), .val (.int bx11), .val (.long (hf v)), .second] [(.long (4 : Int64)), (.long (hf v)), (.long sv)]))
      refine own_by (fun _ k => XS.lmul X11.here hx rfl (hb hby d8_81) rfl k) ?_
      show OEnds p e below s _ _ _ (T11.setTop (mkF m 82 #[.val (.ref a), .val (.long of), .second, .val (.long sv), .second, .val (.long (0 : Int64)), .second, .val (.int ix11), .val (.long vx11), .second, .val (.int sx11), .val (.int bx11), .val (.long (hf v)), .second] [(.long ((hf v) * (4 : Int64))), (.long sv)]))
      refine own_by (fun _ k => XS.ladd X11.here hx rfl (hb hby d8_82) rfl k) ?_
      show OEnds p e below s _ _ _ (T11.setTop (mkF m 83 #[.val (.ref a), .val (.long of), .second, .val (.long sv), .second, .val (.long (0 : Int64)), .second, .val (.int ix11), .val (.long vx11), .second, .val (.int sx11), .val (.int bx11), .val (.long (hf v)), .second] [(.long (sv + ((hf v) * (4 : Int64))))]))
      refine own_by (fun _ k => XS.lstoreN X11.here hx rfl (hb hby d8_83) rfl (l' := #[.val (.ref a), .val (.long of), .second, .val (.long (sv + ((hf v) * (4 : Int64)))), .second, .val (.long (0 : Int64)), .second, .val (.int ix11), .val (.long vx11), .second, .val (.int sx11), .val (.int bx11), .val (.long (hf v)), .second]) rfl k) ?_
      show OEnds p e below s _ _ _ (T11.setTop (mkF m 84 #[.val (.ref a), .val (.long of), .second, .val (.long (sv + ((hf v) * (4 : Int64)))), .second, .val (.long (0 : Int64)), .second, .val (.int ix11), .val (.long vx11), .second, .val (.int sx11), .val (.int bx11), .val (.long (hf v)), .second] []))
      refine own_by (fun _ k => XS.goto X11.here hx rfl (pc0 := 84) (pc' := 124) rfl (hb hby d8_84) (by decide) (by decide) k) ?_
      show OEnds p e below s _ _ _ (T11.setTop (mkF m 124 #[.val (.ref a), .val (.long of), .second, .val (.long (sv + ((hf v) * (4 : Int64)))), .second, .val (.long (0 : Int64)), .second, .val (.int ix11), .val (.long vx11), .second, .val (.int sx11), .val (.int bx11), .val (.long (hf v)), .second] []))
      refine own_by (fun _ k => XS.goto X11.here hx rfl (pc0 := 124) (pc' := 11) rfl (hb hby d8_124) (by decide) (by decide) k) ?_
      show OEnds p e below s _ _ _ (T11.setTop (mkF m 11 #[.val (.ref a), .val (.long of), .second, .val (.long (sv + ((hf v) * (4 : Int64)))), .second, .val (.long (0 : Int64)), .second, .val (.int ix11), .val (.long vx11), .second, .val (.int sx11), .val (.int bx11), .val (.long (hf v)), .second] []))
      exact o11 vs T11 _ (sv + ((hf v) * (4 : Int64))) (0 : Int64) ix11 vx11 sx11 bx11 (hf v) _ X11 e11 N0 hlo hix hEr ((scan_odd (odd_of hvx hc72_12)).symm.trans hres)
theorem d1_0 : decode method_2_code 0 = .ok (.iload_n 0, 1) := by decide +kernel
theorem d1_1 : decode method_2_code 1 = .ok (.iconst 1, 1) := by decide +kernel
theorem d1_2 : decode method_2_code 2 = .ok (.iand, 1) := by decide +kernel
theorem d1_3 : decode method_2_code 3 = .ok (.ifCond .ne 7, 3) := by decide +kernel
theorem d1_6 : decode method_2_code 6 = .ok (.iconst 0, 1) := by decide +kernel
theorem d1_7 : decode method_2_code 7 = .ok (.goto 6, 3) := by decide +kernel
theorem d1_10 : decode method_2_code 10 = .ok (.iload_n 0, 1) := by decide +kernel
theorem d1_11 : decode method_2_code 11 = .ok (.iconst 1, 1) := by decide +kernel
theorem d1_12 : decode method_2_code 12 = .ok (.iushr, 1) := by decide +kernel
theorem d1_13 : decode method_2_code 13 = .ok (.ireturn, 1) := by decide +kernel
theorem pn_1 : plainName "com/example/fourfold/fourfold/xdr/FragmentMapInStreamPinLaw" = true := by first | (simp [plainName, overriddenIn]; done) | decide +kernel
theorem ef_1 (m : MethodId) (q0 : Int32) : entryFrame m #[(.int q0)] 1 = mkF m 0 #[.val (.int q0)] [] := by first | (simp [entryFrame, mkF, argsToLocals, Value.category]; done) | rfl
def jlen_13 (v13_s0 : Int32) : Int32 := v13_s0
def jlen (q0 : Int32) : Int32 := if (q0 &&& (1 : Int32)) = (0 : Int32) then (jlen_13 (0 : Int32)) else (jlen_13 ((q0.toUInt32 >>> ((1 : Int32) &&& 31).toUInt32).toInt32))
set_option maxRecDepth 65536 in
set_option maxHeartbeats 40000000 in
theorem rm_jlen (l : Launch) (Z : State) (a0 : Array Value) (hw : ∀ d ∈ tables_1, d.before a0 Z = true) (ws : List Jvm.Cond) (q0 : Int32) (h0 : Heap) :
    MetFree l (⟨"com/example/fourfold/fourfold/xdr/FragmentMapInStreamPinLaw", "len", "(I)I"⟩ : MethodName) (head1 (Jvm.Cond.code (⟨"com/example/fourfold/fourfold/xdr/FragmentMapInStreamPinLaw", "len", "(I)I"⟩ : MethodName) method_2_code 1 (some .int) :: ws) ({ frames := 0, cells := 0, slots := 0, locals := 0 } : Room)) (fun a U => a = #[(.int q0)] ∧ Z.Warmed39 U.vm ∧ U.heap = h0) (fun _ _ _ _ _ => True) (fun _ U o U' => ∃ v L, o = .returned v ∧ QP (Value.int (jlen q0)) h0 v U'.heap L ∧ FrameEnd U o U' L 0 0) := by
  refine MetFree.of_bodySF (plainFor_of_name pn_1) hisR ?_
  intro p e s m args below meth c s₁ Bd hml0 hP hK
  obtain ⟨rfl, hZ, hh⟩ := hP
  have hx := Bd.exec
  have hby := Bd.bytes
  have hlk : meth.locks = false := Bd.notSynchronized
  have hml : c.maxLocals = 1 := hml0
  have hown : s.vm.findClass "com/example/fourfold/fourfold/xdr/FragmentMapInStreamPinLaw" = some m.cls := findClass_of_methodNamed Bd.named
  have X0 : Stand p l e ({ frames := 0, cells := 0, slots := 0, locals := 0 } : Room) s m #[(.int q0)] below meth c s₁ [] 0 0 := Stand.of_body Bd
  have e0 : s₁.heap = h0 := by rw [← hh, Bd.state]; rfl
  have bjlen_13 : ∀ (T : State) (X : Stand p l e ({ frames := 0, cells := 0, slots := 0, locals := 0 } : Room) s m #[(.int q0)] below meth c T [] 0 0) (eT : T.heap = h0) (v13_s0 : Int32), OEnds p e below s (QP (Value.int (jlen_13 v13_s0)) h0) 0 0 (T.setTop (mkF m 13 #[.val (.int q0)] [(.int v13_s0)])) := by
    intro T X eT v13_s0
    exact own_retI X hx hlk Bd.returns (hb hby d1_13) ⟨congrArg (fun z => some (Value.int z)) (Eq.symm (by rw [jlen_13] <;> rfl)), rfl, eT⟩ (Nat.le_refl _) (Nat.le_refl _)
  show OEnds p e below s _ _ _ _
  refine own_by (fun t k => castTop (ef_1 m q0) k) ?_
  show OEnds p e below s _ _ _ (s₁.setTop (mkF m 0 #[.val (.int q0)] []))
  refine own_by (fun _ k => XS.iloadN X0.here hx rfl (hb hby d1_0) rfl k) ?_
  show OEnds p e below s _ _ _ (s₁.setTop (mkF m 1 #[.val (.int q0)] [(.int q0)]))
  refine own_by (fun _ k => XS.iconst X0.here hx rfl (hb hby d1_1) k) ?_
  show OEnds p e below s _ _ _ (s₁.setTop (mkF m 2 #[.val (.int q0)] [(.int (1 : Int32)), (.int q0)]))
  refine own_by (fun _ k => XS.iand X0.here hx rfl (hb hby d1_2) rfl k) ?_
  show OEnds p e below s _ _ _ (s₁.setTop (mkF m 3 #[.val (.int q0)] [(.int (q0 &&& (1 : Int32)))]))
  by_cases hc3 : (q0 &&& (1 : Int32)) = (0 : Int32)
  · refine own_by (fun _ k => XS.ifNo X0.here hx rfl (hb hby d1_3) rfl ((if0 _ _).trans (teq hc3).2) k) ?_
    show OEnds p e below s _ _ _ (s₁.setTop (mkF m 6 #[.val (.int q0)] []))
    refine own_by (fun _ k => XS.iconst X0.here hx rfl (hb hby d1_6) k) ?_
    show OEnds p e below s _ _ _ (s₁.setTop (mkF m 7 #[.val (.int q0)] [(.int (0 : Int32))]))
    refine own_by (fun _ k => XS.goto X0.here hx rfl (pc0 := 7) (pc' := 13) rfl (hb hby d1_7) (by decide) (by decide) k) ?_
    show OEnds p e below s _ _ _ (s₁.setTop (mkF m 13 #[.val (.int q0)] [(.int (0 : Int32))]))
    exact own_eq (congrArg Value.int (by rw [jlen, if_pos hc3] <;> rfl)) (bjlen_13 s₁ X0 e0 (0 : Int32))
  · refine own_by (fun _ k => XS.ifYes X0.here hx rfl (pc0 := 3) (pc' := 10) rfl (hb hby d1_3) rfl ((if0 _ _).trans (feq hc3).2) (by decide) (by decide) k) ?_
    show OEnds p e below s _ _ _ (s₁.setTop (mkF m 10 #[.val (.int q0)] []))
    refine own_by (fun _ k => XS.iloadN X0.here hx rfl (hb hby d1_10) rfl k) ?_
    show OEnds p e below s _ _ _ (s₁.setTop (mkF m 11 #[.val (.int q0)] [(.int q0)]))
    refine own_by (fun _ k => XS.iconst X0.here hx rfl (hb hby d1_11) k) ?_
    show OEnds p e below s _ _ _ (s₁.setTop (mkF m 12 #[.val (.int q0)] [(.int (1 : Int32)), (.int q0)]))
    refine own_by (fun _ k => XS.iushr X0.here hx rfl (hb hby d1_12) rfl k) ?_
    show OEnds p e below s _ _ _ (s₁.setTop (mkF m 13 #[.val (.int q0)] [(.int ((q0.toUInt32 >>> ((1 : Int32) &&& 31).toUInt32).toInt32))]))
    exact own_eq (congrArg Value.int (by rw [jlen, if_neg hc3] <;> rfl)) (bjlen_13 s₁ X0 e0 ((q0.toUInt32 >>> ((1 : Int32) &&& 31).toUInt32).toInt32))
def hd : List Nat → Nat → Nat → Nat → Nat → Nat
  | [], _, _, hdr, en => hdr + en
  | v :: vs, bf, o, hdr, en => if v % 2 = 1 then hd vs bf o (hdr + v / 2) en else if o < bf + v / 2 then hdr + 1 else hd vs (bf + v / 2) o (hdr + 1) en
def tot : List Nat → Nat → Nat
  | [], bf => bf
  | v :: vs, bf => if v % 2 = 1 then tot vs bf else tot vs (bf + v / 2)
theorem ofNat_add (x y : Nat) : Int64.ofNat (x + y) = Int64.ofNat x + Int64.ofNat y := by
  apply Int64.toBitVec.inj
  show BitVec.ofNat 64 (x + y) = BitVec.ofNat 64 x + BitVec.ofNat 64 y
  exact BitVec.ofNat_add x y
theorem eq_ofNat {x : Int64} {n : Nat} (h : x.toInt = (n : Int)) : x = Int64.ofNat n := by
  apply Int64.toInt_inj.mp
  have h1 : (Int64.ofNat n).toInt = ((n : Nat) : Int).bmod (2 ^ 64) := Int64.toInt_ofNat'
  have h2 := bm64 ((n : Nat) : Int)
  have h3 := rng64 (Int64.ofNat n)
  have h4 := rng64 x
  rw [h1] at h3 ⊢
  omega
theorem scan_hd (start : Int64) (of em : Int64) (o en : Nat) (ho : of.toInt = (o : Int)) (he : em.toInt = (en : Int)) : ∀ (vs : List Nat) (at_ bf_ : Int64) (bf hdr : Nat), bf_.toInt = (bf : Int) → at_ = start + bf_ + 4 * Int64.ofNat hdr → (∀ v ∈ vs, v < 34359738368) → bf + vs.length * 34359738368 < 4611686018427387904 → o ≤ tot vs bf → bf ≤ o → scanF vs at_ bf_ of em = (start + of) + (4 * Int64.ofNat (hd vs bf o hdr en)) := by
  intro vs
  induction vs with
  | nil =>
    intro at_ bf_ bf hdr hb ha hv hl ht hbo
    rw [scanF, hd, ofNat_add, ← eq_ofNat he]
    have : bf_ = of := Int64.toInt_inj.mp (by rw [hb, ho]; have : o ≤ bf := ht; omega)
    rw [ha, this]
    grind
  | cons v vs ih =>
    intro at_ bf_ bf hdr hb ha hv hl ht hbo
    have hv0 := hv v (by simp)
    have hh := hf_toInt hv0
    rw [List.length_cons] at hl
    have hl2 : bf + v / 2 + vs.length * 34359738368 < 4611686018427387904 := by clear ih ht hh ha hv; omega
    have hl1 : bf + vs.length * 34359738368 < 4611686018427387904 := Nat.lt_of_le_of_lt (Nat.add_le_add_right (Nat.le_add_right bf (v / 2)) _) hl2
    by_cases h1 : v % 2 = 1
    · rw [scan_odd h1, hd, if_pos h1]
      rw [tot, if_pos h1] at ht
      refine ih _ _ _ _ hb ?_ (fun w hw => hv w (by simp [hw])) hl1 ht hbo
      rw [ha, ofNat_add, ← eq_ofNat hh]
      grind
    · have e1 := c_ladd bf_ (hf v)
      have e2 := rng64 (bf_ + hf v)
      have e3 : (bf_ + hf v).toInt = ((bf + v / 2 : Nat) : Int) := by rw [hb, hh] at e1; omega
      rw [tot, if_neg h1] at ht
      by_cases h2 : o < bf + v / 2
      · have h2' : of < bf_ + hf v := by rw [Int64.lt_iff_toInt_lt, e3, ho]; omega
        rw [scan_hit h1 h2', hd, if_neg h1, if_pos h2, ofNat_add, ha]
        show _ = start + of + 4 * (Int64.ofNat hdr + 1)
        grind
      · have h2' : ¬ of < bf_ + hf v := by rw [Int64.lt_iff_toInt_lt, e3, ho]; omega
        rw [scan_even h1 h2', hd, if_neg h1, if_neg h2]
        refine ih _ _ _ _ e3 ?_ (fun w hw => hv w (by simp [hw])) hl2 ht (by omega)
        rw [ofNat_add, ha]
        show _ = start + (bf_ + hf v) + 4 * (Int64.ofNat hdr + 1)
        grind
def v4 (a b c d : Nat) : List Nat := addV (addV (addV (addV [] 0 a) (addE 0 a) b) (addE (addE 0 a) b) c) (addE (addE (addE 0 a) b) c) d
def e4 (a b c d : Nat) : Nat := addE (addE (addE (addE 0 a) b) c) d
theorem hd_law (a b c d o : Nat) (ho : o ≤ a + b + c + d) : hd (v4 a b c d) 0 o 0 (e4 a b c d) = (if o < a then 1 else if o < a + b then 2 else if o < a + b + c then 3 else 4) ∧ o ≤ tot (v4 a b c d) 0 := by
  have x1 : ∀ n : Nat, ¬ (2 * n) % 2 = 1 := fun n => by omega
  have x2 : ∀ n : Nat, (2 * n) / 2 = n := fun n => by omega
  have x3 : ∀ n : Nat, (2 * n + 1) % 2 = 1 := fun n => by omega
  have x4 : ∀ n : Nat, (2 * n + 1) / 2 = n := fun n => by omega
  by_cases h1 : a = 0 <;> by_cases h2 : b = 0 <;> by_cases h3 : c = 0 <;> by_cases h4 : d = 0 <;>
    simp only [v4, e4, addV, addE, h1, h2, h3, h4, if_true, if_false, List.nil_append, List.cons_append, List.append_assoc, Nat.zero_add, Nat.add_eq_zero_iff, Nat.succ_ne_zero, and_false, reduceCtorEq, hd, tot, x1, x2, x3, x4, Nat.add_zero] <;>
    refine ⟨?_, by first | omega | (simp; omega)⟩ <;>
    (repeat' split) <;> first | omega | trivial
theorem v4_bound {a b c d : Nat} (ha : a < 2147483648) (hb : b < 2147483648) (hc : c < 2147483648) (hd : d < 2147483648) : (∀ v ∈ v4 a b c d, v < 34359738368) ∧ (v4 a b c d).length ≤ 8 := by
  have key : ∀ (vs : List Nat) (en u n : Nat), u < 2147483648 → en ≤ 4 → (∀ v ∈ vs, v < 34359738368) ∧ vs.length ≤ n → (∀ v ∈ addV vs en u, v < 34359738368) ∧ (addV vs en u).length ≤ n + 2 := by
    intro vs en u n hu he ⟨h1, h2⟩
    rw [addV]
    by_cases q1 : u = 0
    · rw [if_pos q1]; exact ⟨h1, by omega⟩
    · rw [if_neg q1]
      by_cases q2 : en = 0
      · rw [if_pos q2]
        refine ⟨fun v hv => ?_, by simp; omega⟩
        rcases List.mem_append.mp hv with h | h
        · exact h1 v h
        · rw [List.mem_singleton] at h; omega
      · rw [if_neg q2]
        refine ⟨fun v hv => ?_, by simp; omega⟩
        rcases List.mem_append.mp hv with h | h
        · rcases List.mem_append.mp h with h | h
          · exact h1 v h
          · rw [List.mem_singleton] at h; omega
        · rw [List.mem_singleton] at h; omega
  have ee : ∀ en u n : Nat, en ≤ n → addE en u ≤ n + 1 := by
    intro en u n h
    rw [addE]
    split <;> omega
  have e1 := ee 0 a 0 (by omega)
  have e2 := ee _ b _ e1
  have e3 := ee _ c _ e2
  exact key _ _ _ _ hd (by omega) (key _ _ _ _ hc (by omega) (key _ _ _ _ hb (by omega) (key [] 0 a 0 ha (by omega) ⟨fun v hv => absurd hv (by simp), by simp⟩)))
theorem e_le {en u n : Nat} (h : en ≤ n) : addE en u ≤ n + 1 := by
  rw [addE]
  split <;> omega
theorem fin_law {q0 kk em c : Int64} {a b c' d n : Nat} (ha : a < 2147483648) (hb : b < 2147483648) (hc : c' < 2147483648) (hd : d < 2147483648) (hk0 : 0 ≤ kk.toInt) (hk : kk.toInt ≤ ((a + b + c' + d : Nat) : Int)) (he : em.toInt = ((e4 a b c' d : Nat) : Int)) (hn : (if kk.toInt.toNat < a then 1 else if kk.toInt.toNat < a + b then 2 else if kk.toInt.toNat < a + b + c' then 3 else 4) = n) (hcn : (4 : Int64) * Int64.ofNat n = c) : scanF (v4 a b c' d) q0 (0 : Int64) kk em = ((q0 + kk) + c) := by
  obtain ⟨h1, h2⟩ := hd_law a b c' d kk.toInt.toNat (by omega)
  obtain ⟨b1, b2⟩ := v4_bound ha hb hc hd
  rw [scan_hd q0 kk em kk.toInt.toNat (e4 a b c' d) (by omega) he (v4 a b c' d) q0 0 0 0 (by decide) (by show q0 = q0 + 0 + 4 * 0; grind) b1 (by omega) h2 (by omega), h1, hn, hcn]
theorem len_nn (x : Int32) : 0 ≤ (jlen x).toInt := by
  rw [jlen]
  by_cases h : (x &&& (1 : Int32)) = (0 : Int32)
  · simp only [if_pos h]; decide
  · simp only [if_neg h, jlen_13]
    have h1 := c_iushr x 1 1 (by decide) (by decide)
    have h2 := rng32 x
    omega
theorem own_nn64 (x : Int64) : 0 ≤ (x &&& (9223372036854775807 : Int64)).toInt := by
  have h := c_maskL x 9223372036854775807 63 (by decide) (by decide)
  omega
theorem nn_cast {x : Int32} (h : 0 ≤ x.toInt) : x.toInt = ((x.toInt.toNat : Nat) : Int) := by omega
theorem nn_lt (x : Int32) : x.toInt.toNat < 2147483648 := by have := rng32 x; omega
theorem sum2 {x y : Int64} {a b : Nat} (hx : x.toInt = (a : Int)) (hy : y.toInt = (b : Int)) (h : a + b < 4611686018427387904) : (x + y).toInt = ((a + b : Nat) : Int) := by
  have h1 := c_ladd x y
  have h2 := rng64 (x + y)
  omega
theorem l_of {x : Int32} (h : 0 ≤ x.toInt) : (x.toInt64).toInt = ((x.toInt.toNat : Nat) : Int) := by
  rw [c_i2l]; omega
theorem ne0_of {x : Int64} {n : Nat} (h : x.toInt = (n : Int)) (hn : 0 < n) : x ≠ 0 := by
  intro q
  have : (0 : Int64).toInt = 0 := by decide
  rw [q, this] at h; omega
theorem rem_of {x y : Int64} {n : Nat} (hx : 0 ≤ x.toInt) (h : y.toInt = ((n + 1 : Nat) : Int)) : 0 ≤ (x % y).toInt ∧ (x % y).toInt ≤ (n : Int) := by
  have h1 : (x % y).toInt = x.toInt.tmod y.toInt := Int64.toInt_mod x y
  rw [h1, Int.tmod_eq_emod_of_nonneg hx, h]
  have := Int.emod_lt_of_pos x.toInt (show (0 : Int) < ((n + 1 : Nat) : Int) by omega)
  have := Int.emod_nonneg x.toInt (show ((n + 1 : Nat) : Int) ≠ 0 by omega)
  omega
theorem lt_nat {k s : Int64} {n : Nat} (hk : 0 ≤ k.toInt) (hs : s.toInt = (n : Int)) (h : k < s) : k.toInt.toNat < n := by
  rw [Int64.lt_iff_toInt_lt] at h; omega
theorem ge_nat {k s : Int64} {n : Nat} (hk : 0 ≤ k.toInt) (hs : s.toInt = (n : Int)) (h : ¬ k < s) : ¬ k.toInt.toNat < n := by
  rw [Int64.lt_iff_toInt_lt] at h; omega
theorem pn_0 : plainName "com/example/fourfold/fourfold/xdr/FragmentMapInStreamPinLaw" = true := by first | (simp [plainName, overriddenIn]; done) | decide +kernel
theorem ef_0 (m : MethodId) (x0 : Int64) (x1 : Int64) (x2 : Int32) (x3 : Int32) (x4 : Int32) (x5 : Int32) : entryFrame m #[(.long x0), (.long x1), (.int x2), (.int x3), (.int x4), (.int x5)] maxLocals = mkF m 0 #[.val (.long x0), .second, .val (.long x1), .second, .val (.int x2), .val (.int x3), .val (.int x4), .val (.int x5), .unset, .unset, .unset, .unset, .unset, .unset, .unset, .unset, .unset, .unset, .unset, .unset, .unset, .unset, .unset, .unset, .unset] [] := by first | (simp [entryFrame, mkF, argsToLocals, Value.category, maxLocals]; done) | rfl
def QL (n0 : Nat) (v : Option Value) (h : Heap) (L : List Loc) : Prop := v = some (.int 1) ∧ Fr n0 L
set_option maxRecDepth 65536 in
set_option maxHeartbeats 40000000 in
theorem rm_law (l : Launch) (Z : State) (a0 : Array Value) (hw : ∀ d ∈ tables_1, d.before a0 Z = true) (ws : List Jvm.Cond) (q0 : Int64) (q1 : Int64) (q2 : Int32) (q3 : Int32) (q4 : Int32) (q5 : Int32) (h0 : Heap) (n0 : Nat) (Z0 : n0 ≤ h0.size) :
    MetFree l x (head1 (Jvm.Cond.code x code maxLocals ret :: ws) room_1) (fun a_ U => a_ = #[(.long q0), (.long q1), (.int q2), (.int q3), (.int q4), (.int q5)] ∧ Z.Warmed39 U.vm ∧ U.heap = h0) (fun _ _ _ _ _ => True) (fun _ U o U' => ∃ v_ L_, o = .returned v_ ∧ QL n0 v_ U'.heap L_ ∧ FrameEnd U o U' L_ room_1.cells room_1.slots) := by
  refine MetFree.of_bodySF (plainFor_of_name pn_0) hisR ?_
  intro p e s m args below meth c s₁ Bd hml0 hP hK
  obtain ⟨rfl, hZ, hh⟩ := hP
  have hx := Bd.exec
  have hby := Bd.bytes
  have hlk : meth.locks = false := Bd.notSynchronized
  have hml : c.maxLocals = 25 := hml0
  have hown : s.vm.findClass "com/example/fourfold/fourfold/xdr/FragmentMapInStreamPinLaw" = some m.cls := findClass_of_methodNamed Bd.named
  have hnm := (name_of_methodNamed Bd.named Bd.method).1
  have X0 : Stand p l e room_1 s m #[(.long q0), (.long q1), (.int q2), (.int q3), (.int q4), (.int q5)] below meth c s₁ [] 0 0 := Stand.of_body Bd
  have e0 : s₁.heap = h0 := by rw [← hh, Bd.state]; rfl
  have N0 := Fr.nil n0
  have K0 : Keep h0 h0 [] := Keep.refl _ _
  show OEnds p e below s (QL n0) _ _ _
  refine own_by (fun t k => castTop (ef_0 m q0 q1 q2 q3 q4 q5) k) ?_
  show OEnds p e below s _ _ _ (s₁.setTop (mkF m 0 #[.val (.long q0), .second, .val (.long q1), .second, .val (.int q2), .val (.int q3), .val (.int q4), .val (.int q5), .unset, .unset, .unset, .unset, .unset, .unset, .unset, .unset, .unset, .unset, .unset, .unset, .unset, .unset, .unset, .unset, .unset] []))
  refine own_by (fun _ k => XS.iload X0.here hx rfl (hb hby at_0) rfl k) ?_
  show OEnds p e below s _ _ _ (s₁.setTop (mkF m 2 #[.val (.long q0), .second, .val (.long q1), .second, .val (.int q2), .val (.int q3), .val (.int q4), .val (.int q5), .unset, .unset, .unset, .unset, .unset, .unset, .unset, .unset, .unset, .unset, .unset, .unset, .unset, .unset, .unset, .unset, .unset] [(.int q2)]))
  obtain ⟨T1, X1, e1, st1⟩ := own_callP X0 hx hZ (y := (⟨"com/example/fourfold/fourfold/xdr/FragmentMapInStreamPinLaw", "len", "(I)I"⟩ : MethodName)) hown (hw _ (List.mem_of_getElem? (i := 0) rfl)) (hw _ (List.mem_of_getElem? (i := 1) rfl)) (hw _ (List.mem_of_getElem? (i := 2) rfl)) (hw _ (List.mem_of_getElem? (i := 3) rfl)) (by decide) (rm_jlen l Z a0 hw [] q2 h0) e0 (g := (mkF m 2 #[.val (.long q0), .second, .val (.long q1), .second, .val (.int q2), .val (.int q3), .val (.int q4), .val (.int q5), .unset, .unset, .unset, .unset, .unset, .unset, .unset, .unset, .unset, .unset, .unset, .unset, .unset, .unset, .unset, .unset, .unset] [(.int q2)])) rfl (by rw [hml]; rfl) (argsL := [(.int q2)]) (rest := []) (lenOf pd_pIrI rfl) rfl (W := 0) (by show 2 * 0 + _ ≤ _; exact Nat.le_of_eq rfl) (hb hby at_2) (by decide) (by decide) (by decide) (by decide)
  refine own_by (st1) ?_
  show OEnds p e below s _ _ _ (T1.setTop (mkF m 5 #[.val (.long q0), .second, .val (.long q1), .second, .val (.int q2), .val (.int q3), .val (.int q4), .val (.int q5), .unset, .unset, .unset, .unset, .unset, .unset, .unset, .unset, .unset, .unset, .unset, .unset, .unset, .unset, .unset, .unset, .unset] [(.int (jlen q2))]))
  refine own_by (fun _ k => XS.istore X1.here hx rfl (hb hby at_5) rfl (l' := #[.val (.long q0), .second, .val (.long q1), .second, .val (.int q2), .val (.int q3), .val (.int q4), .val (.int q5), .val (.int (jlen q2)), .unset, .unset, .unset, .unset, .unset, .unset, .unset, .unset, .unset, .unset, .unset, .unset, .unset, .unset, .unset, .unset]) rfl k) ?_
  show OEnds p e below s _ _ _ (T1.setTop (mkF m 7 #[.val (.long q0), .second, .val (.long q1), .second, .val (.int q2), .val (.int q3), .val (.int q4), .val (.int q5), .val (.int (jlen q2)), .unset, .unset, .unset, .unset, .unset, .unset, .unset, .unset, .unset, .unset, .unset, .unset, .unset, .unset, .unset, .unset] []))
  refine own_by (fun _ k => XS.iload X1.here hx rfl (hb hby at_7) rfl k) ?_
  show OEnds p e below s _ _ _ (T1.setTop (mkF m 9 #[.val (.long q0), .second, .val (.long q1), .second, .val (.int q2), .val (.int q3), .val (.int q4), .val (.int q5), .val (.int (jlen q2)), .unset, .unset, .unset, .unset, .unset, .unset, .unset, .unset, .unset, .unset, .unset, .unset, .unset, .unset, .unset, .unset] [(.int q3)]))
  obtain ⟨T2, X2, e2, st2⟩ := own_callP X1 hx hZ (y := (⟨"com/example/fourfold/fourfold/xdr/FragmentMapInStreamPinLaw", "len", "(I)I"⟩ : MethodName)) hown (hw _ (List.mem_of_getElem? (i := 0) rfl)) (hw _ (List.mem_of_getElem? (i := 1) rfl)) (hw _ (List.mem_of_getElem? (i := 2) rfl)) (hw _ (List.mem_of_getElem? (i := 3) rfl)) (by decide) (rm_jlen l Z a0 hw [] q3 h0) e1 (g := (mkF m 9 #[.val (.long q0), .second, .val (.long q1), .second, .val (.int q2), .val (.int q3), .val (.int q4), .val (.int q5), .val (.int (jlen q2)), .unset, .unset, .unset, .unset, .unset, .unset, .unset, .unset, .unset, .unset, .unset, .unset, .unset, .unset, .unset, .unset] [(.int q3)])) rfl (by rw [hml]; rfl) (argsL := [(.int q3)]) (rest := []) (lenOf pd_pIrI rfl) rfl (W := 0) (by show 2 * 0 + _ ≤ _; exact Nat.le_of_eq rfl) (hb hby at_9) (by decide) (by decide) (by decide) (by decide)
  refine own_by (st2) ?_
  show OEnds p e below s _ _ _ (T2.setTop (mkF m 12 #[.val (.long q0), .second, .val (.long q1), .second, .val (.int q2), .val (.int q3), .val (.int q4), .val (.int q5), .val (.int (jlen q2)), .unset, .unset, .unset, .unset, .unset, .unset, .unset, .unset, .unset, .unset, .unset, .unset, .unset, .unset, .unset, .unset] [(.int (jlen q3))]))
  refine own_by (fun _ k => XS.istore X2.here hx rfl (hb hby at_12) rfl (l' := #[.val (.long q0), .second, .val (.long q1), .second, .val (.int q2), .val (.int q3), .val (.int q4), .val (.int q5), .val (.int (jlen q2)), .val (.int (jlen q3)), .unset, .unset, .unset, .unset, .unset, .unset, .unset, .unset, .unset, .unset, .unset, .unset, .unset, .unset, .unset]) rfl k) ?_
  show OEnds p e below s _ _ _ (T2.setTop (mkF m 14 #[.val (.long q0), .second, .val (.long q1), .second, .val (.int q2), .val (.int q3), .val (.int q4), .val (.int q5), .val (.int (jlen q2)), .val (.int (jlen q3)), .unset, .unset, .unset, .unset, .unset, .unset, .unset, .unset, .unset, .unset, .unset, .unset, .unset, .unset, .unset] []))
  refine own_by (fun _ k => XS.iload X2.here hx rfl (hb hby at_14) rfl k) ?_
  show OEnds p e below s _ _ _ (T2.setTop (mkF m 16 #[.val (.long q0), .second, .val (.long q1), .second, .val (.int q2), .val (.int q3), .val (.int q4), .val (.int q5), .val (.int (jlen q2)), .val (.int (jlen q3)), .unset, .unset, .unset, .unset, .unset, .unset, .unset, .unset, .unset, .unset, .unset, .unset, .unset, .unset, .unset] [(.int q4)]))
  obtain ⟨T3, X3, e3, st3⟩ := own_callP X2 hx hZ (y := (⟨"com/example/fourfold/fourfold/xdr/FragmentMapInStreamPinLaw", "len", "(I)I"⟩ : MethodName)) hown (hw _ (List.mem_of_getElem? (i := 0) rfl)) (hw _ (List.mem_of_getElem? (i := 1) rfl)) (hw _ (List.mem_of_getElem? (i := 2) rfl)) (hw _ (List.mem_of_getElem? (i := 3) rfl)) (by decide) (rm_jlen l Z a0 hw [] q4 h0) e2 (g := (mkF m 16 #[.val (.long q0), .second, .val (.long q1), .second, .val (.int q2), .val (.int q3), .val (.int q4), .val (.int q5), .val (.int (jlen q2)), .val (.int (jlen q3)), .unset, .unset, .unset, .unset, .unset, .unset, .unset, .unset, .unset, .unset, .unset, .unset, .unset, .unset, .unset] [(.int q4)])) rfl (by rw [hml]; rfl) (argsL := [(.int q4)]) (rest := []) (lenOf pd_pIrI rfl) rfl (W := 0) (by show 2 * 0 + _ ≤ _; exact Nat.le_of_eq rfl) (hb hby at_16) (by decide) (by decide) (by decide) (by decide)
  refine own_by (st3) ?_
  show OEnds p e below s _ _ _ (T3.setTop (mkF m 19 #[.val (.long q0), .second, .val (.long q1), .second, .val (.int q2), .val (.int q3), .val (.int q4), .val (.int q5), .val (.int (jlen q2)), .val (.int (jlen q3)), .unset, .unset, .unset, .unset, .unset, .unset, .unset, .unset, .unset, .unset, .unset, .unset, .unset, .unset, .unset] [(.int (jlen q4))]))
  refine own_by (fun _ k => XS.istore X3.here hx rfl (hb hby at_19) rfl (l' := #[.val (.long q0), .second, .val (.long q1), .second, .val (.int q2), .val (.int q3), .val (.int q4), .val (.int q5), .val (.int (jlen q2)), .val (.int (jlen q3)), .val (.int (jlen q4)), .unset, .unset, .unset, .unset, .unset, .unset, .unset, .unset, .unset, .unset, .unset, .unset, .unset, .unset]) rfl k) ?_
  show OEnds p e below s _ _ _ (T3.setTop (mkF m 21 #[.val (.long q0), .second, .val (.long q1), .second, .val (.int q2), .val (.int q3), .val (.int q4), .val (.int q5), .val (.int (jlen q2)), .val (.int (jlen q3)), .val (.int (jlen q4)), .unset, .unset, .unset, .unset, .unset, .unset, .unset, .unset, .unset, .unset, .unset, .unset, .unset, .unset] []))
  refine own_by (fun _ k => XS.iload X3.here hx rfl (hb hby at_21) rfl k) ?_
  show OEnds p e below s _ _ _ (T3.setTop (mkF m 23 #[.val (.long q0), .second, .val (.long q1), .second, .val (.int q2), .val (.int q3), .val (.int q4), .val (.int q5), .val (.int (jlen q2)), .val (.int (jlen q3)), .val (.int (jlen q4)), .unset, .unset, .unset, .unset, .unset, .unset, .unset, .unset, .unset, .unset, .unset, .unset, .unset, .unset] [(.int q5)]))
  obtain ⟨T4, X4, e4, st4⟩ := own_callP X3 hx hZ (y := (⟨"com/example/fourfold/fourfold/xdr/FragmentMapInStreamPinLaw", "len", "(I)I"⟩ : MethodName)) hown (hw _ (List.mem_of_getElem? (i := 0) rfl)) (hw _ (List.mem_of_getElem? (i := 1) rfl)) (hw _ (List.mem_of_getElem? (i := 2) rfl)) (hw _ (List.mem_of_getElem? (i := 3) rfl)) (by decide) (rm_jlen l Z a0 hw [] q5 h0) e3 (g := (mkF m 23 #[.val (.long q0), .second, .val (.long q1), .second, .val (.int q2), .val (.int q3), .val (.int q4), .val (.int q5), .val (.int (jlen q2)), .val (.int (jlen q3)), .val (.int (jlen q4)), .unset, .unset, .unset, .unset, .unset, .unset, .unset, .unset, .unset, .unset, .unset, .unset, .unset, .unset] [(.int q5)])) rfl (by rw [hml]; rfl) (argsL := [(.int q5)]) (rest := []) (lenOf pd_pIrI rfl) rfl (W := 0) (by show 2 * 0 + _ ≤ _; exact Nat.le_of_eq rfl) (hb hby at_23) (by decide) (by decide) (by decide) (by decide)
  refine own_by (st4) ?_
  show OEnds p e below s _ _ _ (T4.setTop (mkF m 26 #[.val (.long q0), .second, .val (.long q1), .second, .val (.int q2), .val (.int q3), .val (.int q4), .val (.int q5), .val (.int (jlen q2)), .val (.int (jlen q3)), .val (.int (jlen q4)), .unset, .unset, .unset, .unset, .unset, .unset, .unset, .unset, .unset, .unset, .unset, .unset, .unset, .unset] [(.int (jlen q5))]))
  refine own_by (fun _ k => XS.istore X4.here hx rfl (hb hby at_26) rfl (l' := #[.val (.long q0), .second, .val (.long q1), .second, .val (.int q2), .val (.int q3), .val (.int q4), .val (.int q5), .val (.int (jlen q2)), .val (.int (jlen q3)), .val (.int (jlen q4)), .val (.int (jlen q5)), .unset, .unset, .unset, .unset, .unset, .unset, .unset, .unset, .unset, .unset, .unset, .unset, .unset]) rfl k) ?_
  show OEnds p e below s _ _ _ (T4.setTop (mkF m 28 #[.val (.long q0), .second, .val (.long q1), .second, .val (.int q2), .val (.int q3), .val (.int q4), .val (.int q5), .val (.int (jlen q2)), .val (.int (jlen q3)), .val (.int (jlen q4)), .val (.int (jlen q5)), .unset, .unset, .unset, .unset, .unset, .unset, .unset, .unset, .unset, .unset, .unset, .unset, .unset] []))
  have hla := len_nn q2
  generalize (jlen q2) = la at hla ⊢
  have bla := nn_lt la
  have hlb := len_nn q3
  generalize (jlen q3) = lb at hlb ⊢
  have blb := nn_lt lb
  have hlc := len_nn q4
  generalize (jlen q4) = lc at hlc ⊢
  have blc := nn_lt lc
  have hld := len_nn q5
  generalize (jlen q5) = ld at hld ⊢
  have bld := nn_lt ld
  show OEnds p e below s _ _ _ (T4.setTop (mkF m 28 #[.val (.long q0), .second, .val (.long q1), .second, .val (.int q2), .val (.int q3), .val (.int q4), .val (.int q5), .val (.int la), .val (.int lb), .val (.int lc), .val (.int ld), .unset, .unset, .unset, .unset, .unset, .unset, .unset, .unset, .unset, .unset, .unset, .unset, .unset] []))
  obtain ⟨T5, h5, X5, e5, E5, A5, D5, -, st5⟩ := newO X4 hx hZ hown (hw _ (List.mem_of_getElem? (i := 4) rfl)) (hw _ (List.mem_of_getElem? (i := 5) rfl)) (hw _ (List.mem_of_getElem? (i := 6) rfl)) e4 (g := (mkF m 28 #[.val (.long q0), .second, .val (.long q1), .second, .val (.int q2), .val (.int q3), .val (.int q4), .val (.int q5), .val (.int la), .val (.int lb), .val (.int lc), .val (.int ld), .unset, .unset, .unset, .unset, .unset, .unset, .unset, .unset, .unset, .unset, .unset, .unset, .unset] [])) rfl (hb hby at_28) (by decide) (by decide)
  obtain ⟨nb5, g5⟩ : ∃ z, z = h0.size := ⟨_, rfl⟩
  rw [← g5] at A5 D5 st5
  refine own_by (st5) ?_
  have g_nb5 : n0 ≤ nb5 := Nat.le_trans Z0 (Nat.le_of_eq g5.symm)
  have Z5 : n0 ≤ h5.size := Nat.le_trans Z0 E5.1
  have O5 : Obj Z h5 nb5 "com/example/fourfold/fourfold/xdr/FragmentMap" sch_fm [.null, (.long (0 : Int64)), (.int (0 : Int32)), (.long (0 : Int64))] := Obj.new (so_sch_fm hw) A5 D5 [(.array .byte), .long, .int, .long] (by decide)
  show OEnds p e below s _ _ _ (T5.setTop (mkF m 31 #[.val (.long q0), .second, .val (.long q1), .second, .val (.int q2), .val (.int q3), .val (.int q4), .val (.int q5), .val (.int la), .val (.int lb), .val (.int lc), .val (.int ld), .unset, .unset, .unset, .unset, .unset, .unset, .unset, .unset, .unset, .unset, .unset, .unset, .unset] [(.ref nb5)]))
  refine own_by (fun _ k => XS.dup X5.here hx rfl (hb hby at_31) rfl rfl k) ?_
  show OEnds p e below s _ _ _ (T5.setTop (mkF m 32 #[.val (.long q0), .second, .val (.long q1), .second, .val (.int q2), .val (.int q3), .val (.int q4), .val (.int q5), .val (.int la), .val (.int lb), .val (.int lc), .val (.int ld), .unset, .unset, .unset, .unset, .unset, .unset, .unset, .unset, .unset, .unset, .unset, .unset, .unset] [(.ref nb5), (.ref nb5)]))
  obtain ⟨v6, T6, L6, h6, X6, e6, hQ6, st6⟩ := own_callI X5 hx hZ (y := (⟨"com/example/fourfold/fourfold/xdr/FragmentMap", "<init>", "()V"⟩ : MethodName)) rfl hown (hw _ (List.mem_of_getElem? (i := 7) rfl)) (hw _ (List.mem_of_getElem? (i := 8) rfl)) (hw _ (List.mem_of_getElem? (i := 9) rfl)) (hw _ (List.mem_of_getElem? (i := 6) rfl)) (by decide) (rm_init l Z a0 hw [] nb5 h5 n0 Z5 O5 g_nb5) e5 (g := (mkF m 32 #[.val (.long q0), .second, .val (.long q1), .second, .val (.int q2), .val (.int q3), .val (.int q4), .val (.int q5), .val (.int la), .val (.int lb), .val (.int lc), .val (.int ld), .unset, .unset, .unset, .unset, .unset, .unset, .unset, .unset, .unset, .unset, .unset, .unset, .unset] [(.ref nb5), (.ref nb5)])) rfl (by rw [hml]; rfl) (argsL := []) (rest := [(.ref nb5)]) (lenOf pd_prV rfl) rfl (W := 1) (by show 2 * 0 + _ ≤ _; exact Nat.le_of_eq rfl) (hb hby at_32) (by decide) (by decide) (by decide) (by decide)
  obtain ⟨rfl, Nq6, Kq6, bf, -, gbf, O6, F6⟩ := hQ6
  have N6 := Fr.app N0 Nq6
  have Z6 : n0 ≤ h6.size := Nat.le_trans Z5 Kq6.1
  refine own_tr st6 ?_
  show OEnds p e below s _ _ _ (T6.setTop (mkF m 35 #[.val (.long q0), .second, .val (.long q1), .second, .val (.int q2), .val (.int q3), .val (.int q4), .val (.int q5), .val (.int la), .val (.int lb), .val (.int lc), .val (.int ld), .unset, .unset, .unset, .unset, .unset, .unset, .unset, .unset, .unset, .unset, .unset, .unset, .unset] [(.ref nb5)]))
  refine own_by (fun _ k => XS.astore X6.here hx rfl (hb hby at_35) rfl rfl (l' := #[.val (.long q0), .second, .val (.long q1), .second, .val (.int q2), .val (.int q3), .val (.int q4), .val (.int q5), .val (.int la), .val (.int lb), .val (.int lc), .val (.int ld), .val (.ref nb5), .unset, .unset, .unset, .unset, .unset, .unset, .unset, .unset, .unset, .unset, .unset, .unset]) rfl k) ?_
  show OEnds p e below s _ _ _ (T6.setTop (mkF m 37 #[.val (.long q0), .second, .val (.long q1), .second, .val (.int q2), .val (.int q3), .val (.int q4), .val (.int q5), .val (.int la), .val (.int lb), .val (.int lc), .val (.int ld), .val (.ref nb5), .unset, .unset, .unset, .unset, .unset, .unset, .unset, .unset, .unset, .unset, .unset, .unset] []))
  refine own_by (fun _ k => XS.aload X6.here hx rfl (hb hby at_37) rfl rfl k) ?_
  show OEnds p e below s _ _ _ (T6.setTop (mkF m 39 #[.val (.long q0), .second, .val (.long q1), .second, .val (.int q2), .val (.int q3), .val (.int q4), .val (.int q5), .val (.int la), .val (.int lb), .val (.int lc), .val (.int ld), .val (.ref nb5), .unset, .unset, .unset, .unset, .unset, .unset, .unset, .unset, .unset, .unset, .unset, .unset] [(.ref nb5)]))
  refine own_by (fun _ k => XS.lloadN X6.here hx rfl (hb hby at_39) rfl k) ?_
  show OEnds p e below s _ _ _ (T6.setTop (mkF m 40 #[.val (.long q0), .second, .val (.long q1), .second, .val (.int q2), .val (.int q3), .val (.int q4), .val (.int q5), .val (.int la), .val (.int lb), .val (.int lc), .val (.int ld), .val (.ref nb5), .unset, .unset, .unset, .unset, .unset, .unset, .unset, .unset, .unset, .unset, .unset, .unset] [(.long q0), (.ref nb5)]))
  obtain ⟨v7, T7, L7, h7, X7, e7, hQ7, st7⟩ := own_callV X6 hx hZ (y := (⟨"com/example/fourfold/fourfold/xdr/FragmentMap", "begin", "(J)V"⟩ : MethodName)) hown (hw _ (List.mem_of_getElem? (i := 16) rfl)) (hw _ (List.mem_of_getElem? (i := 17) rfl)) (hw _ (List.mem_of_getElem? (i := 19) rfl)) (hw _ (List.mem_of_getElem? (i := 18) rfl)) (hw _ (List.mem_of_getElem? (i := 20) rfl)) (hw _ (List.mem_of_getElem? (i := 6) rfl)) (by decide) O6.exa (rm_begin l Z a0 hw [] nb5 q0 bf (0 : Int64) (0 : Int32) (0 : Int64) h6 n0 Z6 O6 g_nb5) e6 (g := (mkF m 40 #[.val (.long q0), .second, .val (.long q1), .second, .val (.int q2), .val (.int q3), .val (.int q4), .val (.int q5), .val (.int la), .val (.int lb), .val (.int lc), .val (.int ld), .val (.ref nb5), .unset, .unset, .unset, .unset, .unset, .unset, .unset, .unset, .unset, .unset, .unset, .unset] [(.long q0), (.ref nb5)])) rfl (by rw [hml]; rfl) (argsL := [(.long q0)]) (rest := []) (lenOf pd_pJrV rfl) rfl (W := 0) (by show 2 * 0 + _ ≤ _; exact Nat.le_of_eq rfl) (hb hby at_40) (by decide) (by decide) (by decide) (by decide)
  obtain ⟨rfl, Nq7, Kq7, O7⟩ := hQ7
  have N7 := Fr.app N6 Nq7
  have Z7 : n0 ≤ h7.size := Nat.le_trans Z6 Kq7.1
  refine own_tr st7 ?_
  show OEnds p e below s _ _ _ (T7.setTop (mkF m 43 #[.val (.long q0), .second, .val (.long q1), .second, .val (.int q2), .val (.int q3), .val (.int q4), .val (.int q5), .val (.int la), .val (.int lb), .val (.int lc), .val (.int ld), .val (.ref nb5), .unset, .unset, .unset, .unset, .unset, .unset, .unset, .unset, .unset, .unset, .unset, .unset] []))
  refine own_by (fun _ k => XS.aload X7.here hx rfl (hb hby at_43) rfl rfl k) ?_
  show OEnds p e below s _ _ _ (T7.setTop (mkF m 45 #[.val (.long q0), .second, .val (.long q1), .second, .val (.int q2), .val (.int q3), .val (.int q4), .val (.int q5), .val (.int la), .val (.int lb), .val (.int lc), .val (.int ld), .val (.ref nb5), .unset, .unset, .unset, .unset, .unset, .unset, .unset, .unset, .unset, .unset, .unset, .unset] [(.ref nb5)]))
  refine own_by (fun _ k => XS.iload X7.here hx rfl (hb hby at_45) rfl k) ?_
  show OEnds p e below s _ _ _ (T7.setTop (mkF m 47 #[.val (.long q0), .second, .val (.long q1), .second, .val (.int q2), .val (.int q3), .val (.int q4), .val (.int q5), .val (.int la), .val (.int lb), .val (.int lc), .val (.int ld), .val (.ref nb5), .unset, .unset, .unset, .unset, .unset, .unset, .unset, .unset, .unset, .unset, .unset, .unset] [(.int la), (.ref nb5)]))
  have F9 : FA Z h7 bf .byte 16 (fun i => .int ((fun _ => (0 : Int32)) i)) := (F6.keep Kq7 (ninS (Ne.symm (O6.ne_fa (hw _ (List.mem_of_getElem? (i := 5) rfl)) F6)) nin0))
  obtain ⟨v8, T8, L8, h8, X8, e8, hQ8, st8⟩ := own_callV X7 hx hZ (y := (⟨"com/example/fourfold/fourfold/xdr/FragmentMap", "add", "(I)V"⟩ : MethodName)) hown (hw _ (List.mem_of_getElem? (i := 27) rfl)) (hw _ (List.mem_of_getElem? (i := 28) rfl)) (hw _ (List.mem_of_getElem? (i := 30) rfl)) (hw _ (List.mem_of_getElem? (i := 29) rfl)) (hw _ (List.mem_of_getElem? (i := 31) rfl)) (hw _ (List.mem_of_getElem? (i := 6) rfl)) (by decide) O7.exa (rm_addN l Z a0 hw [] nb5 la bf (begin_start q0) begin_size begin_empty (fun _ => (0 : Int32)) 0 16 [] 0 la.toInt.toNat h7 n0 Z7 O7 F9 g_nb5 gbf (by decide) (by decide) (Or.inl rfl) (fun _ _ => (by decide : fits .byte (.int (0 : Int32)) = true)) rfl (by decide) (by decide) (by decide) (nn_cast hla) bla) e7 (g := (mkF m 47 #[.val (.long q0), .second, .val (.long q1), .second, .val (.int q2), .val (.int q3), .val (.int q4), .val (.int q5), .val (.int la), .val (.int lb), .val (.int lc), .val (.int ld), .val (.ref nb5), .unset, .unset, .unset, .unset, .unset, .unset, .unset, .unset, .unset, .unset, .unset, .unset] [(.int la), (.ref nb5)])) rfl (by rw [hml]; rfl) (argsL := [(.int la)]) (rest := []) (lenOf pd_pIrV rfl) rfl (W := 0) (by show 2 * 0 + _ ≤ _; exact Nat.le_of_eq rfl) (hb hby at_47) (by decide) (by decide) (by decide) (by decide)
  obtain ⟨rfl, Nq8, Kq8, ab8, an8, af8, ak8, sz8, ae8, -, gq8, hn8, hl8, hl68, hft8, hE8, hsz8, hem8, O8, F8⟩ := hQ8
  have N8 := Fr.app N7 Nq8
  have Z8 : n0 ≤ h8.size := Nat.le_trans Z7 Kq8.1
  refine own_tr st8 ?_
  show OEnds p e below s _ _ _ (T8.setTop (mkF m 50 #[.val (.long q0), .second, .val (.long q1), .second, .val (.int q2), .val (.int q3), .val (.int q4), .val (.int q5), .val (.int la), .val (.int lb), .val (.int lc), .val (.int ld), .val (.ref nb5), .unset, .unset, .unset, .unset, .unset, .unset, .unset, .unset, .unset, .unset, .unset, .unset] []))
  refine own_by (fun _ k => XS.aload X8.here hx rfl (hb hby at_50) rfl rfl k) ?_
  show OEnds p e below s _ _ _ (T8.setTop (mkF m 52 #[.val (.long q0), .second, .val (.long q1), .second, .val (.int q2), .val (.int q3), .val (.int q4), .val (.int q5), .val (.int la), .val (.int lb), .val (.int lc), .val (.int ld), .val (.ref nb5), .unset, .unset, .unset, .unset, .unset, .unset, .unset, .unset, .unset, .unset, .unset, .unset] [(.ref nb5)]))
  refine own_by (fun _ k => XS.iload X8.here hx rfl (hb hby at_52) rfl k) ?_
  show OEnds p e below s _ _ _ (T8.setTop (mkF m 54 #[.val (.long q0), .second, .val (.long q1), .second, .val (.int q2), .val (.int q3), .val (.int q4), .val (.int q5), .val (.int la), .val (.int lb), .val (.int lc), .val (.int ld), .val (.ref nb5), .unset, .unset, .unset, .unset, .unset, .unset, .unset, .unset, .unset, .unset, .unset, .unset] [(.int lb), (.ref nb5)]))
  obtain ⟨v10, T10, L10, h10, X10, e10, hQ10, st10⟩ := own_callV X8 hx hZ (y := (⟨"com/example/fourfold/fourfold/xdr/FragmentMap", "add", "(I)V"⟩ : MethodName)) hown (hw _ (List.mem_of_getElem? (i := 27) rfl)) (hw _ (List.mem_of_getElem? (i := 28) rfl)) (hw _ (List.mem_of_getElem? (i := 30) rfl)) (hw _ (List.mem_of_getElem? (i := 29) rfl)) (hw _ (List.mem_of_getElem? (i := 31) rfl)) (hw _ (List.mem_of_getElem? (i := 6) rfl)) (by decide) O8.exa (rm_addN l Z a0 hw [] nb5 lb ab8 (begin_start q0) sz8 ae8 af8 ak8 an8 (addV [] 0 la.toInt.toNat) (addE 0 la.toInt.toNat) lb.toInt.toNat h8 n0 Z8 O8 F8 g_nb5 gq8 hsz8 hl8 hn8 hft8 hE8 (by omega) hem8 (Nat.le_trans (e_le (Nat.le_refl 0)) (by decide)) (nn_cast hlb) blb) e8 (g := (mkF m 54 #[.val (.long q0), .second, .val (.long q1), .second, .val (.int q2), .val (.int q3), .val (.int q4), .val (.int q5), .val (.int la), .val (.int lb), .val (.int lc), .val (.int ld), .val (.ref nb5), .unset, .unset, .unset, .unset, .unset, .unset, .unset, .unset, .unset, .unset, .unset, .unset] [(.int lb), (.ref nb5)])) rfl (by rw [hml]; rfl) (argsL := [(.int lb)]) (rest := []) (lenOf pd_pIrV rfl) rfl (W := 0) (by show 2 * 0 + _ ≤ _; exact Nat.le_of_eq rfl) (hb hby at_54) (by decide) (by decide) (by decide) (by decide)
  obtain ⟨rfl, Nq10, Kq10, ab10, an10, af10, ak10, sz10, ae10, -, gq10, hn10, hl10, hl610, hft10, hE10, hsz10, hem10, O10, F10⟩ := hQ10
  have N10 := Fr.app N8 Nq10
  have Z10 : n0 ≤ h10.size := Nat.le_trans Z8 Kq10.1
  refine own_tr st10 ?_
  show OEnds p e below s _ _ _ (T10.setTop (mkF m 57 #[.val (.long q0), .second, .val (.long q1), .second, .val (.int q2), .val (.int q3), .val (.int q4), .val (.int q5), .val (.int la), .val (.int lb), .val (.int lc), .val (.int ld), .val (.ref nb5), .unset, .unset, .unset, .unset, .unset, .unset, .unset, .unset, .unset, .unset, .unset, .unset] []))
  refine own_by (fun _ k => XS.aload X10.here hx rfl (hb hby at_57) rfl rfl k) ?_
  show OEnds p e below s _ _ _ (T10.setTop (mkF m 59 #[.val (.long q0), .second, .val (.long q1), .second, .val (.int q2), .val (.int q3), .val (.int q4), .val (.int q5), .val (.int la), .val (.int lb), .val (.int lc), .val (.int ld), .val (.ref nb5), .unset, .unset, .unset, .unset, .unset, .unset, .unset, .unset, .unset, .unset, .unset, .unset] [(.ref nb5)]))
  refine own_by (fun _ k => XS.iload X10.here hx rfl (hb hby at_59) rfl k) ?_
  show OEnds p e below s _ _ _ (T10.setTop (mkF m 61 #[.val (.long q0), .second, .val (.long q1), .second, .val (.int q2), .val (.int q3), .val (.int q4), .val (.int q5), .val (.int la), .val (.int lb), .val (.int lc), .val (.int ld), .val (.ref nb5), .unset, .unset, .unset, .unset, .unset, .unset, .unset, .unset, .unset, .unset, .unset, .unset] [(.int lc), (.ref nb5)]))
  obtain ⟨v11, T11, L11, h11, X11, e11, hQ11, st11⟩ := own_callV X10 hx hZ (y := (⟨"com/example/fourfold/fourfold/xdr/FragmentMap", "add", "(I)V"⟩ : MethodName)) hown (hw _ (List.mem_of_getElem? (i := 27) rfl)) (hw _ (List.mem_of_getElem? (i := 28) rfl)) (hw _ (List.mem_of_getElem? (i := 30) rfl)) (hw _ (List.mem_of_getElem? (i := 29) rfl)) (hw _ (List.mem_of_getElem? (i := 31) rfl)) (hw _ (List.mem_of_getElem? (i := 6) rfl)) (by decide) O10.exa (rm_addG l Z a0 hw [] nb5 lc ab10 (begin_start q0) sz10 ae10 af10 ak10 an10 (addV (addV [] 0 la.toInt.toNat) (addE 0 la.toInt.toNat) lb.toInt.toNat) (addE (addE 0 la.toInt.toNat) lb.toInt.toNat) lc.toInt.toNat h10 n0 Z10 O10 F10 g_nb5 gq10 hsz10 hl10 hn10 hft10 hE10 (by omega) hem10 (Nat.le_trans (e_le (e_le (Nat.le_refl 0))) (by decide)) (nn_cast hlc) blc) e10 (g := (mkF m 61 #[.val (.long q0), .second, .val (.long q1), .second, .val (.int q2), .val (.int q3), .val (.int q4), .val (.int q5), .val (.int la), .val (.int lb), .val (.int lc), .val (.int ld), .val (.ref nb5), .unset, .unset, .unset, .unset, .unset, .unset, .unset, .unset, .unset, .unset, .unset, .unset] [(.int lc), (.ref nb5)])) rfl (by rw [hml]; rfl) (argsL := [(.int lc)]) (rest := []) (lenOf pd_pIrV rfl) rfl (W := 0) (by show 2 * 0 + _ ≤ _; exact Nat.le_of_eq rfl) (hb hby at_61) (by decide) (by decide) (by decide) (by decide)
  obtain ⟨rfl, Nq11, Kq11, ab11, an11, af11, ak11, sz11, ae11, -, gq11, hn11, hl11, hl611, hft11, hE11, hsz11, hem11, O11, F11⟩ := hQ11
  have N11 := Fr.app N10 Nq11
  have Z11 : n0 ≤ h11.size := Nat.le_trans Z10 Kq11.1
  refine own_tr st11 ?_
  show OEnds p e below s _ _ _ (T11.setTop (mkF m 64 #[.val (.long q0), .second, .val (.long q1), .second, .val (.int q2), .val (.int q3), .val (.int q4), .val (.int q5), .val (.int la), .val (.int lb), .val (.int lc), .val (.int ld), .val (.ref nb5), .unset, .unset, .unset, .unset, .unset, .unset, .unset, .unset, .unset, .unset, .unset, .unset] []))
  refine own_by (fun _ k => XS.aload X11.here hx rfl (hb hby at_64) rfl rfl k) ?_
  show OEnds p e below s _ _ _ (T11.setTop (mkF m 66 #[.val (.long q0), .second, .val (.long q1), .second, .val (.int q2), .val (.int q3), .val (.int q4), .val (.int q5), .val (.int la), .val (.int lb), .val (.int lc), .val (.int ld), .val (.ref nb5), .unset, .unset, .unset, .unset, .unset, .unset, .unset, .unset, .unset, .unset, .unset, .unset] [(.ref nb5)]))
  refine own_by (fun _ k => XS.iload X11.here hx rfl (hb hby at_66) rfl k) ?_
  show OEnds p e below s _ _ _ (T11.setTop (mkF m 68 #[.val (.long q0), .second, .val (.long q1), .second, .val (.int q2), .val (.int q3), .val (.int q4), .val (.int q5), .val (.int la), .val (.int lb), .val (.int lc), .val (.int ld), .val (.ref nb5), .unset, .unset, .unset, .unset, .unset, .unset, .unset, .unset, .unset, .unset, .unset, .unset] [(.int ld), (.ref nb5)]))
  obtain ⟨v12, T12, L12, h12, X12, e12, hQ12, st12⟩ := own_callV X11 hx hZ (y := (⟨"com/example/fourfold/fourfold/xdr/FragmentMap", "add", "(I)V"⟩ : MethodName)) hown (hw _ (List.mem_of_getElem? (i := 27) rfl)) (hw _ (List.mem_of_getElem? (i := 28) rfl)) (hw _ (List.mem_of_getElem? (i := 30) rfl)) (hw _ (List.mem_of_getElem? (i := 29) rfl)) (hw _ (List.mem_of_getElem? (i := 31) rfl)) (hw _ (List.mem_of_getElem? (i := 6) rfl)) (by decide) O11.exa (rm_addG l Z a0 hw [] nb5 ld ab11 (begin_start q0) sz11 ae11 af11 ak11 an11 (addV (addV (addV [] 0 la.toInt.toNat) (addE 0 la.toInt.toNat) lb.toInt.toNat) (addE (addE 0 la.toInt.toNat) lb.toInt.toNat) lc.toInt.toNat) (addE (addE (addE 0 la.toInt.toNat) lb.toInt.toNat) lc.toInt.toNat) ld.toInt.toNat h11 n0 Z11 O11 F11 g_nb5 gq11 hsz11 hl11 hn11 hft11 hE11 (by omega) hem11 (Nat.le_trans (e_le (e_le (e_le (Nat.le_refl 0)))) (by decide)) (nn_cast hld) bld) e11 (g := (mkF m 68 #[.val (.long q0), .second, .val (.long q1), .second, .val (.int q2), .val (.int q3), .val (.int q4), .val (.int q5), .val (.int la), .val (.int lb), .val (.int lc), .val (.int ld), .val (.ref nb5), .unset, .unset, .unset, .unset, .unset, .unset, .unset, .unset, .unset, .unset, .unset, .unset] [(.int ld), (.ref nb5)])) rfl (by rw [hml]; rfl) (argsL := [(.int ld)]) (rest := []) (lenOf pd_pIrV rfl) rfl (W := 0) (by show 2 * 0 + _ ≤ _; exact Nat.le_of_eq rfl) (hb hby at_68) (by decide) (by decide) (by decide) (by decide)
  obtain ⟨rfl, Nq12, Kq12, ab12, an12, af12, ak12, sz12, ae12, -, gq12, hn12, hl12, hl612, hft12, hE12, hsz12, hem12, O12, F12⟩ := hQ12
  have N12 := Fr.app N11 Nq12
  have Z12 : n0 ≤ h12.size := Nat.le_trans Z11 Kq12.1
  refine own_tr st12 ?_
  show OEnds p e below s _ _ _ (T12.setTop (mkF m 71 #[.val (.long q0), .second, .val (.long q1), .second, .val (.int q2), .val (.int q3), .val (.int q4), .val (.int q5), .val (.int la), .val (.int lb), .val (.int lc), .val (.int ld), .val (.ref nb5), .unset, .unset, .unset, .unset, .unset, .unset, .unset, .unset, .unset, .unset, .unset, .unset] []))
  refine own_by (fun _ k => XS.iload X12.here hx rfl (hb hby at_71) rfl k) ?_
  show OEnds p e below s _ _ _ (T12.setTop (mkF m 73 #[.val (.long q0), .second, .val (.long q1), .second, .val (.int q2), .val (.int q3), .val (.int q4), .val (.int q5), .val (.int la), .val (.int lb), .val (.int lc), .val (.int ld), .val (.ref nb5), .unset, .unset, .unset, .unset, .unset, .unset, .unset, .unset, .unset, .unset, .unset, .unset] [(.int la)]))
  refine own_by (fun _ k => XS.i2l X12.here hx rfl (hb hby at_73) rfl k) ?_
  show OEnds p e below s _ _ _ (T12.setTop (mkF m 74 #[.val (.long q0), .second, .val (.long q1), .second, .val (.int q2), .val (.int q3), .val (.int q4), .val (.int q5), .val (.int la), .val (.int lb), .val (.int lc), .val (.int ld), .val (.ref nb5), .unset, .unset, .unset, .unset, .unset, .unset, .unset, .unset, .unset, .unset, .unset, .unset] [(.long (la.toInt64))]))
  refine own_by (fun _ k => XS.lstore X12.here hx rfl (hb hby at_74) rfl (l' := #[.val (.long q0), .second, .val (.long q1), .second, .val (.int q2), .val (.int q3), .val (.int q4), .val (.int q5), .val (.int la), .val (.int lb), .val (.int lc), .val (.int ld), .val (.ref nb5), .val (.long (la.toInt64)), .second, .unset, .unset, .unset, .unset, .unset, .unset, .unset, .unset, .unset, .unset]) rfl k) ?_
  show OEnds p e below s _ _ _ (T12.setTop (mkF m 76 #[.val (.long q0), .second, .val (.long q1), .second, .val (.int q2), .val (.int q3), .val (.int q4), .val (.int q5), .val (.int la), .val (.int lb), .val (.int lc), .val (.int ld), .val (.ref nb5), .val (.long (la.toInt64)), .second, .unset, .unset, .unset, .unset, .unset, .unset, .unset, .unset, .unset, .unset] []))
  refine own_by (fun _ k => XS.lload X12.here hx rfl (hb hby at_76) rfl k) ?_
  show OEnds p e below s _ _ _ (T12.setTop (mkF m 78 #[.val (.long q0), .second, .val (.long q1), .second, .val (.int q2), .val (.int q3), .val (.int q4), .val (.int q5), .val (.int la), .val (.int lb), .val (.int lc), .val (.int ld), .val (.ref nb5), .val (.long (la.toInt64)), .second, .unset, .unset, .unset, .unset, .unset, .unset, .unset, .unset, .unset, .unset] [(.long (la.toInt64))]))
  refine own_by (fun _ k => XS.iload X12.here hx rfl (hb hby at_78) rfl k) ?_
  show OEnds p e below s _ _ _ (T12.setTop (mkF m 80 #[.val (.long q0), .second, .val (.long q1), .second, .val (.int q2), .val (.int q3), .val (.int q4), .val (.int q5), .val (.int la), .val (.int lb), .val (.int lc), .val (.int ld), .val (.ref nb5), .val (.long (la.toInt64)), .second, .unset, .unset, .unset, .unset, .unset, .unset, .unset, .unset, .unset, .unset] [(.int lb), (.long (la.toInt64))]))
  refine own_by (fun _ k => XS.i2l X12.here hx rfl (hb hby at_80) rfl k) ?_
  show OEnds p e below s _ _ _ (T12.setTop (mkF m 81 #[.val (.long q0), .second, .val (.long q1), .second, .val (.int q2), .val (.int q3), .val (.int q4), .val (.int q5), .val (.int la), .val (.int lb), .val (.int lc), .val (.int ld), .val (.ref nb5), .val (.long (la.toInt64)), .second, .unset, .unset, .unset, .unset, .unset, .unset, .unset, .unset, .unset, .unset] [(.long (lb.toInt64)), (.long (la.toInt64))]))
  refine own_by (fun _ k => XS.ladd X12.here hx rfl (hb hby at_81) rfl k) ?_
  show OEnds p e below s _ _ _ (T12.setTop (mkF m 82 #[.val (.long q0), .second, .val (.long q1), .second, .val (.int q2), .val (.int q3), .val (.int q4), .val (.int q5), .val (.int la), .val (.int lb), .val (.int lc), .val (.int ld), .val (.ref nb5), .val (.long (la.toInt64)), .second, .unset, .unset, .unset, .unset, .unset, .unset, .unset, .unset, .unset, .unset] [(.long ((la.toInt64) + (lb.toInt64)))]))
  refine own_by (fun _ k => XS.lstore X12.here hx rfl (hb hby at_82) rfl (l' := #[.val (.long q0), .second, .val (.long q1), .second, .val (.int q2), .val (.int q3), .val (.int q4), .val (.int q5), .val (.int la), .val (.int lb), .val (.int lc), .val (.int ld), .val (.ref nb5), .val (.long (la.toInt64)), .second, .val (.long ((la.toInt64) + (lb.toInt64))), .second, .unset, .unset, .unset, .unset, .unset, .unset, .unset, .unset]) rfl k) ?_
  show OEnds p e below s _ _ _ (T12.setTop (mkF m 84 #[.val (.long q0), .second, .val (.long q1), .second, .val (.int q2), .val (.int q3), .val (.int q4), .val (.int q5), .val (.int la), .val (.int lb), .val (.int lc), .val (.int ld), .val (.ref nb5), .val (.long (la.toInt64)), .second, .val (.long ((la.toInt64) + (lb.toInt64))), .second, .unset, .unset, .unset, .unset, .unset, .unset, .unset, .unset] []))
  refine own_by (fun _ k => XS.lload X12.here hx rfl (hb hby at_84) rfl k) ?_
  show OEnds p e below s _ _ _ (T12.setTop (mkF m 86 #[.val (.long q0), .second, .val (.long q1), .second, .val (.int q2), .val (.int q3), .val (.int q4), .val (.int q5), .val (.int la), .val (.int lb), .val (.int lc), .val (.int ld), .val (.ref nb5), .val (.long (la.toInt64)), .second, .val (.long ((la.toInt64) + (lb.toInt64))), .second, .unset, .unset, .unset, .unset, .unset, .unset, .unset, .unset] [(.long ((la.toInt64) + (lb.toInt64)))]))
  refine own_by (fun _ k => XS.iload X12.here hx rfl (hb hby at_86) rfl k) ?_
  show OEnds p e below s _ _ _ (T12.setTop (mkF m 88 #[.val (.long q0), .second, .val (.long q1), .second, .val (.int q2), .val (.int q3), .val (.int q4), .val (.int q5), .val (.int la), .val (.int lb), .val (.int lc), .val (.int ld), .val (.ref nb5), .val (.long (la.toInt64)), .second, .val (.long ((la.toInt64) + (lb.toInt64))), .second, .unset, .unset, .unset, .unset, .unset, .unset, .unset, .unset] [(.int lc), (.long ((la.toInt64) + (lb.toInt64)))]))
  refine own_by (fun _ k => XS.i2l X12.here hx rfl (hb hby at_88) rfl k) ?_
  show OEnds p e below s _ _ _ (T12.setTop (mkF m 89 #[.val (.long q0), .second, .val (.long q1), .second, .val (.int q2), .val (.int q3), .val (.int q4), .val (.int q5), .val (.int la), .val (.int lb), .val (.int lc), .val (.int ld), .val (.ref nb5), .val (.long (la.toInt64)), .second, .val (.long ((la.toInt64) + (lb.toInt64))), .second, .unset, .unset, .unset, .unset, .unset, .unset, .unset, .unset] [(.long (lc.toInt64)), (.long ((la.toInt64) + (lb.toInt64)))]))
  refine own_by (fun _ k => XS.ladd X12.here hx rfl (hb hby at_89) rfl k) ?_
  show OEnds p e below s _ _ _ (T12.setTop (mkF m 90 #[.val (.long q0), .second, .val (.long q1), .second, .val (.int q2), .val (.int q3), .val (.int q4), .val (.int q5), .val (.int la), .val (.int lb), .val (.int lc), .val (.int ld), .val (.ref nb5), .val (.long (la.toInt64)), .second, .val (.long ((la.toInt64) + (lb.toInt64))), .second, .unset, .unset, .unset, .unset, .unset, .unset, .unset, .unset] [(.long (((la.toInt64) + (lb.toInt64)) + (lc.toInt64)))]))
  refine own_by (fun _ k => XS.lstore X12.here hx rfl (hb hby at_90) rfl (l' := #[.val (.long q0), .second, .val (.long q1), .second, .val (.int q2), .val (.int q3), .val (.int q4), .val (.int q5), .val (.int la), .val (.int lb), .val (.int lc), .val (.int ld), .val (.ref nb5), .val (.long (la.toInt64)), .second, .val (.long ((la.toInt64) + (lb.toInt64))), .second, .val (.long (((la.toInt64) + (lb.toInt64)) + (lc.toInt64))), .second, .unset, .unset, .unset, .unset, .unset, .unset]) rfl k) ?_
  show OEnds p e below s _ _ _ (T12.setTop (mkF m 92 #[.val (.long q0), .second, .val (.long q1), .second, .val (.int q2), .val (.int q3), .val (.int q4), .val (.int q5), .val (.int la), .val (.int lb), .val (.int lc), .val (.int ld), .val (.ref nb5), .val (.long (la.toInt64)), .second, .val (.long ((la.toInt64) + (lb.toInt64))), .second, .val (.long (((la.toInt64) + (lb.toInt64)) + (lc.toInt64))), .second, .unset, .unset, .unset, .unset, .unset, .unset] []))
  refine own_by (fun _ k => XS.lload X12.here hx rfl (hb hby at_92) rfl k) ?_
  show OEnds p e below s _ _ _ (T12.setTop (mkF m 94 #[.val (.long q0), .second, .val (.long q1), .second, .val (.int q2), .val (.int q3), .val (.int q4), .val (.int q5), .val (.int la), .val (.int lb), .val (.int lc), .val (.int ld), .val (.ref nb5), .val (.long (la.toInt64)), .second, .val (.long ((la.toInt64) + (lb.toInt64))), .second, .val (.long (((la.toInt64) + (lb.toInt64)) + (lc.toInt64))), .second, .unset, .unset, .unset, .unset, .unset, .unset] [(.long (((la.toInt64) + (lb.toInt64)) + (lc.toInt64)))]))
  refine own_by (fun _ k => XS.iload X12.here hx rfl (hb hby at_94) rfl k) ?_
  show OEnds p e below s _ _ _ (T12.setTop (mkF m 96 #[.val (.long q0), .second, .val (.long q1), .second, .val (.int q2), .val (.int q3), .val (.int q4), .val (.int q5), .val (.int la), .val (.int lb), .val (.int lc), .val (.int ld), .val (.ref nb5), .val (.long (la.toInt64)), .second, .val (.long ((la.toInt64) + (lb.toInt64))), .second, .val (.long (((la.toInt64) + (lb.toInt64)) + (lc.toInt64))), .second, .unset, .unset, .unset, .unset, .unset, .unset] [(.int ld), (.long (((la.toInt64) + (lb.toInt64)) + (lc.toInt64)))]))
  refine own_by (fun _ k => XS.i2l X12.here hx rfl (hb hby at_96) rfl k) ?_
  show OEnds p e below s _ _ _ (T12.setTop (mkF m 97 #[.val (.long q0), .second, .val (.long q1), .second, .val (.int q2), .val (.int q3), .val (.int q4), .val (.int q5), .val (.int la), .val (.int lb), .val (.int lc), .val (.int ld), .val (.ref nb5), .val (.long (la.toInt64)), .second, .val (.long ((la.toInt64) + (lb.toInt64))), .second, .val (.long (((la.toInt64) + (lb.toInt64)) + (lc.toInt64))), .second, .unset, .unset, .unset, .unset, .unset, .unset] [(.long (ld.toInt64)), (.long (((la.toInt64) + (lb.toInt64)) + (lc.toInt64)))]))
  refine own_by (fun _ k => XS.ladd X12.here hx rfl (hb hby at_97) rfl k) ?_
  show OEnds p e below s _ _ _ (T12.setTop (mkF m 98 #[.val (.long q0), .second, .val (.long q1), .second, .val (.int q2), .val (.int q3), .val (.int q4), .val (.int q5), .val (.int la), .val (.int lb), .val (.int lc), .val (.int ld), .val (.ref nb5), .val (.long (la.toInt64)), .second, .val (.long ((la.toInt64) + (lb.toInt64))), .second, .val (.long (((la.toInt64) + (lb.toInt64)) + (lc.toInt64))), .second, .unset, .unset, .unset, .unset, .unset, .unset] [(.long ((((la.toInt64) + (lb.toInt64)) + (lc.toInt64)) + (ld.toInt64)))]))
  refine own_by (fun _ k => XS.lstore X12.here hx rfl (hb hby at_98) rfl (l' := #[.val (.long q0), .second, .val (.long q1), .second, .val (.int q2), .val (.int q3), .val (.int q4), .val (.int q5), .val (.int la), .val (.int lb), .val (.int lc), .val (.int ld), .val (.ref nb5), .val (.long (la.toInt64)), .second, .val (.long ((la.toInt64) + (lb.toInt64))), .second, .val (.long (((la.toInt64) + (lb.toInt64)) + (lc.toInt64))), .second, .val (.long ((((la.toInt64) + (lb.toInt64)) + (lc.toInt64)) + (ld.toInt64))), .second, .unset, .unset, .unset, .unset]) rfl k) ?_
  show OEnds p e below s _ _ _ (T12.setTop (mkF m 100 #[.val (.long q0), .second, .val (.long q1), .second, .val (.int q2), .val (.int q3), .val (.int q4), .val (.int q5), .val (.int la), .val (.int lb), .val (.int lc), .val (.int ld), .val (.ref nb5), .val (.long (la.toInt64)), .second, .val (.long ((la.toInt64) + (lb.toInt64))), .second, .val (.long (((la.toInt64) + (lb.toInt64)) + (lc.toInt64))), .second, .val (.long ((((la.toInt64) + (lb.toInt64)) + (lc.toInt64)) + (ld.toInt64))), .second, .unset, .unset, .unset, .unset] []))
  refine own_by (fun _ k => XS.lloadN X12.here hx rfl (hb hby at_100) rfl k) ?_
  show OEnds p e below s _ _ _ (T12.setTop (mkF m 101 #[.val (.long q0), .second, .val (.long q1), .second, .val (.int q2), .val (.int q3), .val (.int q4), .val (.int q5), .val (.int la), .val (.int lb), .val (.int lc), .val (.int ld), .val (.ref nb5), .val (.long (la.toInt64)), .second, .val (.long ((la.toInt64) + (lb.toInt64))), .second, .val (.long (((la.toInt64) + (lb.toInt64)) + (lc.toInt64))), .second, .val (.long ((((la.toInt64) + (lb.toInt64)) + (lc.toInt64)) + (ld.toInt64))), .second, .unset, .unset, .unset, .unset] [(.long q1)]))
  refine own_by (X12.ldc2Long hx hown (mvT hZ (hw _ (List.mem_of_getElem? (i := 42) rfl))) (g := (mkF m 101 #[.val (.long q0), .second, .val (.long q1), .second, .val (.int q2), .val (.int q3), .val (.int q4), .val (.int q5), .val (.int la), .val (.int lb), .val (.int lc), .val (.int ld), .val (.ref nb5), .val (.long (la.toInt64)), .second, .val (.long ((la.toInt64) + (lb.toInt64))), .second, .val (.long (((la.toInt64) + (lb.toInt64)) + (lc.toInt64))), .second, .val (.long ((((la.toInt64) + (lb.toInt64)) + (lc.toInt64)) + (ld.toInt64))), .second, .unset, .unset, .unset, .unset] [(.long q1)])) rfl (hb hby at_101)) ?_
  show OEnds p e below s _ _ _ (T12.setTop (mkF m 104 #[.val (.long q0), .second, .val (.long q1), .second, .val (.int q2), .val (.int q3), .val (.int q4), .val (.int q5), .val (.int la), .val (.int lb), .val (.int lc), .val (.int ld), .val (.ref nb5), .val (.long (la.toInt64)), .second, .val (.long ((la.toInt64) + (lb.toInt64))), .second, .val (.long (((la.toInt64) + (lb.toInt64)) + (lc.toInt64))), .second, .val (.long ((((la.toInt64) + (lb.toInt64)) + (lc.toInt64)) + (ld.toInt64))), .second, .unset, .unset, .unset, .unset] [(.long (9223372036854775807 : Int64)), (.long q1)]))
  refine own_by (fun _ k => XS.land X12.here hx rfl (hb hby at_104) rfl k) ?_
  show OEnds p e below s _ _ _ (T12.setTop (mkF m 105 #[.val (.long q0), .second, .val (.long q1), .second, .val (.int q2), .val (.int q3), .val (.int q4), .val (.int q5), .val (.int la), .val (.int lb), .val (.int lc), .val (.int ld), .val (.ref nb5), .val (.long (la.toInt64)), .second, .val (.long ((la.toInt64) + (lb.toInt64))), .second, .val (.long (((la.toInt64) + (lb.toInt64)) + (lc.toInt64))), .second, .val (.long ((((la.toInt64) + (lb.toInt64)) + (lc.toInt64)) + (ld.toInt64))), .second, .unset, .unset, .unset, .unset] [(.long (q1 &&& (9223372036854775807 : Int64)))]))
  refine own_by (fun _ k => XS.lload X12.here hx rfl (hb hby at_105) rfl k) ?_
  show OEnds p e below s _ _ _ (T12.setTop (mkF m 107 #[.val (.long q0), .second, .val (.long q1), .second, .val (.int q2), .val (.int q3), .val (.int q4), .val (.int q5), .val (.int la), .val (.int lb), .val (.int lc), .val (.int ld), .val (.ref nb5), .val (.long (la.toInt64)), .second, .val (.long ((la.toInt64) + (lb.toInt64))), .second, .val (.long (((la.toInt64) + (lb.toInt64)) + (lc.toInt64))), .second, .val (.long ((((la.toInt64) + (lb.toInt64)) + (lc.toInt64)) + (ld.toInt64))), .second, .unset, .unset, .unset, .unset] [(.long ((((la.toInt64) + (lb.toInt64)) + (lc.toInt64)) + (ld.toInt64))), (.long (q1 &&& (9223372036854775807 : Int64)))]))
  refine own_by (fun _ k => XS.lconst X12.here hx rfl (hb hby at_107) k) ?_
  show OEnds p e below s _ _ _ (T12.setTop (mkF m 108 #[.val (.long q0), .second, .val (.long q1), .second, .val (.int q2), .val (.int q3), .val (.int q4), .val (.int q5), .val (.int la), .val (.int lb), .val (.int lc), .val (.int ld), .val (.ref nb5), .val (.long (la.toInt64)), .second, .val (.long ((la.toInt64) + (lb.toInt64))), .second, .val (.long (((la.toInt64) + (lb.toInt64)) + (lc.toInt64))), .second, .val (.long ((((la.toInt64) + (lb.toInt64)) + (lc.toInt64)) + (ld.toInt64))), .second, .unset, .unset, .unset, .unset] [(.long (1 : Int64)), (.long ((((la.toInt64) + (lb.toInt64)) + (lc.toInt64)) + (ld.toInt64))), (.long (q1 &&& (9223372036854775807 : Int64)))]))
  refine own_by (fun _ k => XS.ladd X12.here hx rfl (hb hby at_108) rfl k) ?_
  show OEnds p e below s _ _ _ (T12.setTop (mkF m 109 #[.val (.long q0), .second, .val (.long q1), .second, .val (.int q2), .val (.int q3), .val (.int q4), .val (.int q5), .val (.int la), .val (.int lb), .val (.int lc), .val (.int ld), .val (.ref nb5), .val (.long (la.toInt64)), .second, .val (.long ((la.toInt64) + (lb.toInt64))), .second, .val (.long (((la.toInt64) + (lb.toInt64)) + (lc.toInt64))), .second, .val (.long ((((la.toInt64) + (lb.toInt64)) + (lc.toInt64)) + (ld.toInt64))), .second, .unset, .unset, .unset, .unset] [(.long (((((la.toInt64) + (lb.toInt64)) + (lc.toInt64)) + (ld.toInt64)) + (1 : Int64))), (.long (q1 &&& (9223372036854775807 : Int64)))]))
  refine own_by (fun _ k => own_lrem X12 hx rfl (hb hby at_109) rfl (ne0_of (sum2 (sum2 (sum2 (sum2 (l_of hla) (l_of hlb) (by omega)) (l_of hlc) (by omega)) (l_of hld) (by omega)) (show (1 : Int64).toInt = ((1 : Nat) : Int) by decide) (by omega)) (by omega)) k) ?_
  show OEnds p e below s _ _ _ (T12.setTop (mkF m 110 #[.val (.long q0), .second, .val (.long q1), .second, .val (.int q2), .val (.int q3), .val (.int q4), .val (.int q5), .val (.int la), .val (.int lb), .val (.int lc), .val (.int ld), .val (.ref nb5), .val (.long (la.toInt64)), .second, .val (.long ((la.toInt64) + (lb.toInt64))), .second, .val (.long (((la.toInt64) + (lb.toInt64)) + (lc.toInt64))), .second, .val (.long ((((la.toInt64) + (lb.toInt64)) + (lc.toInt64)) + (ld.toInt64))), .second, .unset, .unset, .unset, .unset] [(.long ((q1 &&& (9223372036854775807 : Int64)) % (((((la.toInt64) + (lb.toInt64)) + (lc.toInt64)) + (ld.toInt64)) + (1 : Int64))))]))
  refine own_by (fun _ k => XS.lstore X12.here hx rfl (hb hby at_110) rfl (l' := #[.val (.long q0), .second, .val (.long q1), .second, .val (.int q2), .val (.int q3), .val (.int q4), .val (.int q5), .val (.int la), .val (.int lb), .val (.int lc), .val (.int ld), .val (.ref nb5), .val (.long (la.toInt64)), .second, .val (.long ((la.toInt64) + (lb.toInt64))), .second, .val (.long (((la.toInt64) + (lb.toInt64)) + (lc.toInt64))), .second, .val (.long ((((la.toInt64) + (lb.toInt64)) + (lc.toInt64)) + (ld.toInt64))), .second, .val (.long ((q1 &&& (9223372036854775807 : Int64)) % (((((la.toInt64) + (lb.toInt64)) + (lc.toInt64)) + (ld.toInt64)) + (1 : Int64)))), .second, .unset, .unset]) rfl k) ?_
  show OEnds p e below s _ _ _ (T12.setTop (mkF m 112 #[.val (.long q0), .second, .val (.long q1), .second, .val (.int q2), .val (.int q3), .val (.int q4), .val (.int q5), .val (.int la), .val (.int lb), .val (.int lc), .val (.int ld), .val (.ref nb5), .val (.long (la.toInt64)), .second, .val (.long ((la.toInt64) + (lb.toInt64))), .second, .val (.long (((la.toInt64) + (lb.toInt64)) + (lc.toInt64))), .second, .val (.long ((((la.toInt64) + (lb.toInt64)) + (lc.toInt64)) + (ld.toInt64))), .second, .val (.long ((q1 &&& (9223372036854775807 : Int64)) % (((((la.toInt64) + (lb.toInt64)) + (lc.toInt64)) + (ld.toInt64)) + (1 : Int64)))), .second, .unset, .unset] []))
  have hs1 := l_of hla
  have hs2 := sum2 hs1 (l_of hlb) (by omega)
  have hs3 := sum2 hs2 (l_of hlc) (by omega)
  have hs4 := sum2 hs3 (l_of hld) (by omega)
  have hs5 := sum2 hs4 (show (1 : Int64).toInt = ((1 : Nat) : Int) by decide) (by omega)
  have hkk := rem_of (own_nn64 q1) hs5
  generalize ((q1 &&& (9223372036854775807 : Int64)) % (((((la.toInt64) + (lb.toInt64)) + (lc.toInt64)) + (ld.toInt64)) + (1 : Int64))) = kk at hkk ⊢
  show OEnds p e below s _ _ _ (T12.setTop (mkF m 112 #[.val (.long q0), .second, .val (.long q1), .second, .val (.int q2), .val (.int q3), .val (.int q4), .val (.int q5), .val (.int la), .val (.int lb), .val (.int lc), .val (.int ld), .val (.ref nb5), .val (.long (la.toInt64)), .second, .val (.long ((la.toInt64) + (lb.toInt64))), .second, .val (.long (((la.toInt64) + (lb.toInt64)) + (lc.toInt64))), .second, .val (.long ((((la.toInt64) + (lb.toInt64)) + (lc.toInt64)) + (ld.toInt64))), .second, .val (.long kk), .second, .unset, .unset] []))
  refine own_by (fun _ k => XS.lload X12.here hx rfl (hb hby at_112) rfl k) ?_
  show OEnds p e below s _ _ _ (T12.setTop (mkF m 114 #[.val (.long q0), .second, .val (.long q1), .second, .val (.int q2), .val (.int q3), .val (.int q4), .val (.int q5), .val (.int la), .val (.int lb), .val (.int lc), .val (.int ld), .val (.ref nb5), .val (.long (la.toInt64)), .second, .val (.long ((la.toInt64) + (lb.toInt64))), .second, .val (.long (((la.toInt64) + (lb.toInt64)) + (lc.toInt64))), .second, .val (.long ((((la.toInt64) + (lb.toInt64)) + (lc.toInt64)) + (ld.toInt64))), .second, .val (.long kk), .second, .unset, .unset] [(.long kk)]))
  refine own_by (fun _ k => XS.lload X12.here hx rfl (hb hby at_114) rfl k) ?_
  show OEnds p e below s _ _ _ (T12.setTop (mkF m 116 #[.val (.long q0), .second, .val (.long q1), .second, .val (.int q2), .val (.int q3), .val (.int q4), .val (.int q5), .val (.int la), .val (.int lb), .val (.int lc), .val (.int ld), .val (.ref nb5), .val (.long (la.toInt64)), .second, .val (.long ((la.toInt64) + (lb.toInt64))), .second, .val (.long (((la.toInt64) + (lb.toInt64)) + (lc.toInt64))), .second, .val (.long ((((la.toInt64) + (lb.toInt64)) + (lc.toInt64)) + (ld.toInt64))), .second, .val (.long kk), .second, .unset, .unset] [(.long (la.toInt64)), (.long kk)]))
  refine own_by (fun _ k => XS.lcmp X12.here hx rfl (hb hby at_116) rfl k) ?_
  show OEnds p e below s _ _ _ (T12.setTop (mkF m 117 #[.val (.long q0), .second, .val (.long q1), .second, .val (.int q2), .val (.int q3), .val (.int q4), .val (.int q5), .val (.int la), .val (.int lb), .val (.int lc), .val (.int ld), .val (.ref nb5), .val (.long (la.toInt64)), .second, .val (.long ((la.toInt64) + (lb.toInt64))), .second, .val (.long (((la.toInt64) + (lb.toInt64)) + (lc.toInt64))), .second, .val (.long ((((la.toInt64) + (lb.toInt64)) + (lc.toInt64)) + (ld.toInt64))), .second, .val (.long kk), .second, .unset, .unset] [(.int (lcmpW kk (la.toInt64)))]))
  by_cases hc117_13 : kk < (la.toInt64)
  · refine own_by (fun _ k => XS.ifNo X12.here hx rfl (hb hby at_117) rfl ((if0 _ _).trans (tlt ((lw_lt _ _).mpr hc117_13)).2.1) k) ?_
    show OEnds p e below s _ _ _ (T12.setTop (mkF m 120 #[.val (.long q0), .second, .val (.long q1), .second, .val (.int q2), .val (.int q3), .val (.int q4), .val (.int q5), .val (.int la), .val (.int lb), .val (.int lc), .val (.int ld), .val (.ref nb5), .val (.long (la.toInt64)), .second, .val (.long ((la.toInt64) + (lb.toInt64))), .second, .val (.long (((la.toInt64) + (lb.toInt64)) + (lc.toInt64))), .second, .val (.long ((((la.toInt64) + (lb.toInt64)) + (lc.toInt64)) + (ld.toInt64))), .second, .val (.long kk), .second, .unset, .unset] []))
    refine own_by (fun _ k => XS.lconst X12.here hx rfl (hb hby at_120) k) ?_
    show OEnds p e below s _ _ _ (T12.setTop (mkF m 121 #[.val (.long q0), .second, .val (.long q1), .second, .val (.int q2), .val (.int q3), .val (.int q4), .val (.int q5), .val (.int la), .val (.int lb), .val (.int lc), .val (.int ld), .val (.ref nb5), .val (.long (la.toInt64)), .second, .val (.long ((la.toInt64) + (lb.toInt64))), .second, .val (.long (((la.toInt64) + (lb.toInt64)) + (lc.toInt64))), .second, .val (.long ((((la.toInt64) + (lb.toInt64)) + (lc.toInt64)) + (ld.toInt64))), .second, .val (.long kk), .second, .unset, .unset] [(.long (1 : Int64))]))
    refine own_by (fun _ k => XS.lstore X12.here hx rfl (hb hby at_121) rfl (l' := #[.val (.long q0), .second, .val (.long q1), .second, .val (.int q2), .val (.int q3), .val (.int q4), .val (.int q5), .val (.int la), .val (.int lb), .val (.int lc), .val (.int ld), .val (.ref nb5), .val (.long (la.toInt64)), .second, .val (.long ((la.toInt64) + (lb.toInt64))), .second, .val (.long (((la.toInt64) + (lb.toInt64)) + (lc.toInt64))), .second, .val (.long ((((la.toInt64) + (lb.toInt64)) + (lc.toInt64)) + (ld.toInt64))), .second, .val (.long kk), .second, .val (.long (1 : Int64)), .second]) rfl k) ?_
    show OEnds p e below s _ _ _ (T12.setTop (mkF m 123 #[.val (.long q0), .second, .val (.long q1), .second, .val (.int q2), .val (.int q3), .val (.int q4), .val (.int q5), .val (.int la), .val (.int lb), .val (.int lc), .val (.int ld), .val (.ref nb5), .val (.long (la.toInt64)), .second, .val (.long ((la.toInt64) + (lb.toInt64))), .second, .val (.long (((la.toInt64) + (lb.toInt64)) + (lc.toInt64))), .second, .val (.long ((((la.toInt64) + (lb.toInt64)) + (lc.toInt64)) + (ld.toInt64))), .second, .val (.long kk), .second, .val (.long (1 : Int64)), .second] []))
    refine own_by (fun _ k => XS.goto X12.here hx rfl (pc0 := 123) (pc' := 163) rfl (hb hby at_123) (by decide) (by decide) k) ?_
    show OEnds p e below s _ _ _ (T12.setTop (mkF m 163 #[.val (.long q0), .second, .val (.long q1), .second, .val (.int q2), .val (.int q3), .val (.int q4), .val (.int q5), .val (.int la), .val (.int lb), .val (.int lc), .val (.int ld), .val (.ref nb5), .val (.long (la.toInt64)), .second, .val (.long ((la.toInt64) + (lb.toInt64))), .second, .val (.long (((la.toInt64) + (lb.toInt64)) + (lc.toInt64))), .second, .val (.long ((((la.toInt64) + (lb.toInt64)) + (lc.toInt64)) + (ld.toInt64))), .second, .val (.long kk), .second, .val (.long (1 : Int64)), .second] []))
    refine own_by (fun _ k => XS.aload X12.here hx rfl (hb hby at_163) rfl rfl k) ?_
    show OEnds p e below s _ _ _ (T12.setTop (mkF m 165 #[.val (.long q0), .second, .val (.long q1), .second, .val (.int q2), .val (.int q3), .val (.int q4), .val (.int q5), .val (.int la), .val (.int lb), .val (.int lc), .val (.int ld), .val (.ref nb5), .val (.long (la.toInt64)), .second, .val (.long ((la.toInt64) + (lb.toInt64))), .second, .val (.long (((la.toInt64) + (lb.toInt64)) + (lc.toInt64))), .second, .val (.long ((((la.toInt64) + (lb.toInt64)) + (lc.toInt64)) + (ld.toInt64))), .second, .val (.long kk), .second, .val (.long (1 : Int64)), .second] [(.ref nb5)]))
    refine own_by (fun _ k => XS.lload X12.here hx rfl (hb hby at_165) rfl k) ?_
    show OEnds p e below s _ _ _ (T12.setTop (mkF m 167 #[.val (.long q0), .second, .val (.long q1), .second, .val (.int q2), .val (.int q3), .val (.int q4), .val (.int q5), .val (.int la), .val (.int lb), .val (.int lc), .val (.int ld), .val (.ref nb5), .val (.long (la.toInt64)), .second, .val (.long ((la.toInt64) + (lb.toInt64))), .second, .val (.long (((la.toInt64) + (lb.toInt64)) + (lc.toInt64))), .second, .val (.long ((((la.toInt64) + (lb.toInt64)) + (lc.toInt64)) + (ld.toInt64))), .second, .val (.long kk), .second, .val (.long (1 : Int64)), .second] [(.long kk), (.ref nb5)]))
    obtain ⟨T14, X14, e14, st14⟩ := own_callR X12 hx hZ (y := (⟨"com/example/fourfold/fourfold/xdr/FragmentMap", "inStream", "(J)J"⟩ : MethodName)) hown (hw _ (List.mem_of_getElem? (i := 44) rfl)) (hw _ (List.mem_of_getElem? (i := 45) rfl)) (hw _ (List.mem_of_getElem? (i := 47) rfl)) (hw _ (List.mem_of_getElem? (i := 46) rfl)) (hw _ (List.mem_of_getElem? (i := 48) rfl)) (hw _ (List.mem_of_getElem? (i := 6) rfl)) (by decide) O12.exa (rm_inStream l Z a0 hw [] nb5 kk ab12 (begin_start q0) sz12 ae12 af12 an12 ak12 (addV (addV (addV (addV [] 0 la.toInt.toNat) (addE 0 la.toInt.toNat) lb.toInt.toNat) (addE (addE 0 la.toInt.toNat) lb.toInt.toNat) lc.toInt.toNat) (addE (addE (addE 0 la.toInt.toNat) lb.toInt.toNat) lc.toInt.toNat) ld.toInt.toNat) h12 n0 Z12 O12 F12 hsz12 hE12 hl12 (by omega)) e12 (g := (mkF m 167 #[.val (.long q0), .second, .val (.long q1), .second, .val (.int q2), .val (.int q3), .val (.int q4), .val (.int q5), .val (.int la), .val (.int lb), .val (.int lc), .val (.int ld), .val (.ref nb5), .val (.long (la.toInt64)), .second, .val (.long ((la.toInt64) + (lb.toInt64))), .second, .val (.long (((la.toInt64) + (lb.toInt64)) + (lc.toInt64))), .second, .val (.long ((((la.toInt64) + (lb.toInt64)) + (lc.toInt64)) + (ld.toInt64))), .second, .val (.long kk), .second, .val (.long (1 : Int64)), .second] [(.long kk), (.ref nb5)])) rfl (by rw [hml]; rfl) (argsL := [(.long kk)]) (rest := []) (lenOf pd_pJrJ rfl) rfl (W := 0) (by show 2 * 0 + _ ≤ _; exact Nat.le_of_eq rfl) (hb hby at_167) (by decide) (by decide) (by decide) (by decide)
    refine own_by (st14) ?_
    show OEnds p e below s _ _ _ (T14.setTop (mkF m 170 #[.val (.long q0), .second, .val (.long q1), .second, .val (.int q2), .val (.int q3), .val (.int q4), .val (.int q5), .val (.int la), .val (.int lb), .val (.int lc), .val (.int ld), .val (.ref nb5), .val (.long (la.toInt64)), .second, .val (.long ((la.toInt64) + (lb.toInt64))), .second, .val (.long (((la.toInt64) + (lb.toInt64)) + (lc.toInt64))), .second, .val (.long ((((la.toInt64) + (lb.toInt64)) + (lc.toInt64)) + (ld.toInt64))), .second, .val (.long kk), .second, .val (.long (1 : Int64)), .second] [(.long (scanF (addV (addV (addV (addV [] 0 la.toInt.toNat) (addE 0 la.toInt.toNat) lb.toInt.toNat) (addE (addE 0 la.toInt.toNat) lb.toInt.toNat) lc.toInt.toNat) (addE (addE (addE 0 la.toInt.toNat) lb.toInt.toNat) lc.toInt.toNat) ld.toInt.toNat) (begin_start q0) (0 : Int64) kk ae12))]))
    refine own_by (fun _ k => XS.lloadN X14.here hx rfl (hb hby at_170) rfl k) ?_
    show OEnds p e below s _ _ _ (T14.setTop (mkF m 171 #[.val (.long q0), .second, .val (.long q1), .second, .val (.int q2), .val (.int q3), .val (.int q4), .val (.int q5), .val (.int la), .val (.int lb), .val (.int lc), .val (.int ld), .val (.ref nb5), .val (.long (la.toInt64)), .second, .val (.long ((la.toInt64) + (lb.toInt64))), .second, .val (.long (((la.toInt64) + (lb.toInt64)) + (lc.toInt64))), .second, .val (.long ((((la.toInt64) + (lb.toInt64)) + (lc.toInt64)) + (ld.toInt64))), .second, .val (.long kk), .second, .val (.long (1 : Int64)), .second] [(.long q0), (.long (scanF (addV (addV (addV (addV [] 0 la.toInt.toNat) (addE 0 la.toInt.toNat) lb.toInt.toNat) (addE (addE 0 la.toInt.toNat) lb.toInt.toNat) lc.toInt.toNat) (addE (addE (addE 0 la.toInt.toNat) lb.toInt.toNat) lc.toInt.toNat) ld.toInt.toNat) (begin_start q0) (0 : Int64) kk ae12))]))
    refine own_by (fun _ k => XS.lload X14.here hx rfl (hb hby at_171) rfl k) ?_
    show OEnds p e below s _ _ _ (T14.setTop (mkF m 173 #[.val (.long q0), .second, .val (.long q1), .second, .val (.int q2), .val (.int q3), .val (.int q4), .val (.int q5), .val (.int la), .val (.int lb), .val (.int lc), .val (.int ld), .val (.ref nb5), .val (.long (la.toInt64)), .second, .val (.long ((la.toInt64) + (lb.toInt64))), .second, .val (.long (((la.toInt64) + (lb.toInt64)) + (lc.toInt64))), .second, .val (.long ((((la.toInt64) + (lb.toInt64)) + (lc.toInt64)) + (ld.toInt64))), .second, .val (.long kk), .second, .val (.long (1 : Int64)), .second] [(.long kk), (.long q0), (.long (scanF (addV (addV (addV (addV [] 0 la.toInt.toNat) (addE 0 la.toInt.toNat) lb.toInt.toNat) (addE (addE 0 la.toInt.toNat) lb.toInt.toNat) lc.toInt.toNat) (addE (addE (addE 0 la.toInt.toNat) lb.toInt.toNat) lc.toInt.toNat) ld.toInt.toNat) (begin_start q0) (0 : Int64) kk ae12))]))
    refine own_by (fun _ k => XS.ladd X14.here hx rfl (hb hby at_173) rfl k) ?_
    show OEnds p e below s _ _ _ (T14.setTop (mkF m 174 #[.val (.long q0), .second, .val (.long q1), .second, .val (.int q2), .val (.int q3), .val (.int q4), .val (.int q5), .val (.int la), .val (.int lb), .val (.int lc), .val (.int ld), .val (.ref nb5), .val (.long (la.toInt64)), .second, .val (.long ((la.toInt64) + (lb.toInt64))), .second, .val (.long (((la.toInt64) + (lb.toInt64)) + (lc.toInt64))), .second, .val (.long ((((la.toInt64) + (lb.toInt64)) + (lc.toInt64)) + (ld.toInt64))), .second, .val (.long kk), .second, .val (.long (1 : Int64)), .second] [(.long (q0 + kk)), (.long (scanF (addV (addV (addV (addV [] 0 la.toInt.toNat) (addE 0 la.toInt.toNat) lb.toInt.toNat) (addE (addE 0 la.toInt.toNat) lb.toInt.toNat) lc.toInt.toNat) (addE (addE (addE 0 la.toInt.toNat) lb.toInt.toNat) lc.toInt.toNat) ld.toInt.toNat) (begin_start q0) (0 : Int64) kk ae12))]))
    refine own_by (X14.ldc2Long hx hown (mvT hZ (hw _ (List.mem_of_getElem? (i := 43) rfl))) (g := (mkF m 174 #[.val (.long q0), .second, .val (.long q1), .second, .val (.int q2), .val (.int q3), .val (.int q4), .val (.int q5), .val (.int la), .val (.int lb), .val (.int lc), .val (.int ld), .val (.ref nb5), .val (.long (la.toInt64)), .second, .val (.long ((la.toInt64) + (lb.toInt64))), .second, .val (.long (((la.toInt64) + (lb.toInt64)) + (lc.toInt64))), .second, .val (.long ((((la.toInt64) + (lb.toInt64)) + (lc.toInt64)) + (ld.toInt64))), .second, .val (.long kk), .second, .val (.long (1 : Int64)), .second] [(.long (q0 + kk)), (.long (scanF (addV (addV (addV (addV [] 0 la.toInt.toNat) (addE 0 la.toInt.toNat) lb.toInt.toNat) (addE (addE 0 la.toInt.toNat) lb.toInt.toNat) lc.toInt.toNat) (addE (addE (addE 0 la.toInt.toNat) lb.toInt.toNat) lc.toInt.toNat) ld.toInt.toNat) (begin_start q0) (0 : Int64) kk ae12))])) rfl (hb hby at_174)) ?_
    show OEnds p e below s _ _ _ (T14.setTop (mkF m 177 #[.val (.long q0), .second, .val (.long q1), .second, .val (.int q2), .val (.int q3), .val (.int q4), .val (.int q5), .val (.int la), .val (.int lb), .val (.int lc), .val (.int ld), .val (.ref nb5), .val (.long (la.toInt64)), .second, .val (.long ((la.toInt64) + (lb.toInt64))), .second, .val (.long (((la.toInt64) + (lb.toInt64)) + (lc.toInt64))), .second, .val (.long ((((la.toInt64) + (lb.toInt64)) + (lc.toInt64)) + (ld.toInt64))), .second, .val (.long kk), .second, .val (.long (1 : Int64)), .second] [(.long (4 : Int64)), (.long (q0 + kk)), (.long (scanF (addV (addV (addV (addV [] 0 la.toInt.toNat) (addE 0 la.toInt.toNat) lb.toInt.toNat) (addE (addE 0 la.toInt.toNat) lb.toInt.toNat) lc.toInt.toNat) (addE (addE (addE 0 la.toInt.toNat) lb.toInt.toNat) lc.toInt.toNat) ld.toInt.toNat) (begin_start q0) (0 : Int64) kk ae12))]))
    refine own_by (fun _ k => XS.lload X14.here hx rfl (hb hby at_177) rfl k) ?_
    show OEnds p e below s _ _ _ (T14.setTop (mkF m 179 #[.val (.long q0), .second, .val (.long q1), .second, .val (.int q2), .val (.int q3), .val (.int q4), .val (.int q5), .val (.int la), .val (.int lb), .val (.int lc), .val (.int ld), .val (.ref nb5), .val (.long (la.toInt64)), .second, .val (.long ((la.toInt64) + (lb.toInt64))), .second, .val (.long (((la.toInt64) + (lb.toInt64)) + (lc.toInt64))), .second, .val (.long ((((la.toInt64) + (lb.toInt64)) + (lc.toInt64)) + (ld.toInt64))), .second, .val (.long kk), .second, .val (.long (1 : Int64)), .second] [(.long (1 : Int64)), (.long (4 : Int64)), (.long (q0 + kk)), (.long (scanF (addV (addV (addV (addV [] 0 la.toInt.toNat) (addE 0 la.toInt.toNat) lb.toInt.toNat) (addE (addE 0 la.toInt.toNat) lb.toInt.toNat) lc.toInt.toNat) (addE (addE (addE 0 la.toInt.toNat) lb.toInt.toNat) lc.toInt.toNat) ld.toInt.toNat) (begin_start q0) (0 : Int64) kk ae12))]))
    refine own_by (fun _ k => XS.lmul X14.here hx rfl (hb hby at_179) rfl k) ?_
    show OEnds p e below s _ _ _ (T14.setTop (mkF m 180 #[.val (.long q0), .second, .val (.long q1), .second, .val (.int q2), .val (.int q3), .val (.int q4), .val (.int q5), .val (.int la), .val (.int lb), .val (.int lc), .val (.int ld), .val (.ref nb5), .val (.long (la.toInt64)), .second, .val (.long ((la.toInt64) + (lb.toInt64))), .second, .val (.long (((la.toInt64) + (lb.toInt64)) + (lc.toInt64))), .second, .val (.long ((((la.toInt64) + (lb.toInt64)) + (lc.toInt64)) + (ld.toInt64))), .second, .val (.long kk), .second, .val (.long (1 : Int64)), .second] [(.long (4 : Int64)), (.long (q0 + kk)), (.long (scanF (addV (addV (addV (addV [] 0 la.toInt.toNat) (addE 0 la.toInt.toNat) lb.toInt.toNat) (addE (addE 0 la.toInt.toNat) lb.toInt.toNat) lc.toInt.toNat) (addE (addE (addE 0 la.toInt.toNat) lb.toInt.toNat) lc.toInt.toNat) ld.toInt.toNat) (begin_start q0) (0 : Int64) kk ae12))]))
    refine own_by (fun _ k => XS.ladd X14.here hx rfl (hb hby at_180) rfl k) ?_
    show OEnds p e below s _ _ _ (T14.setTop (mkF m 181 #[.val (.long q0), .second, .val (.long q1), .second, .val (.int q2), .val (.int q3), .val (.int q4), .val (.int q5), .val (.int la), .val (.int lb), .val (.int lc), .val (.int ld), .val (.ref nb5), .val (.long (la.toInt64)), .second, .val (.long ((la.toInt64) + (lb.toInt64))), .second, .val (.long (((la.toInt64) + (lb.toInt64)) + (lc.toInt64))), .second, .val (.long ((((la.toInt64) + (lb.toInt64)) + (lc.toInt64)) + (ld.toInt64))), .second, .val (.long kk), .second, .val (.long (1 : Int64)), .second] [(.long ((q0 + kk) + (4 : Int64))), (.long (scanF (addV (addV (addV (addV [] 0 la.toInt.toNat) (addE 0 la.toInt.toNat) lb.toInt.toNat) (addE (addE 0 la.toInt.toNat) lb.toInt.toNat) lc.toInt.toNat) (addE (addE (addE 0 la.toInt.toNat) lb.toInt.toNat) lc.toInt.toNat) ld.toInt.toNat) (begin_start q0) (0 : Int64) kk ae12))]))
    refine own_by (fun _ k => XS.lcmp X14.here hx rfl (hb hby at_181) rfl k) ?_
    show OEnds p e below s _ _ _ (T14.setTop (mkF m 182 #[.val (.long q0), .second, .val (.long q1), .second, .val (.int q2), .val (.int q3), .val (.int q4), .val (.int q5), .val (.int la), .val (.int lb), .val (.int lc), .val (.int ld), .val (.ref nb5), .val (.long (la.toInt64)), .second, .val (.long ((la.toInt64) + (lb.toInt64))), .second, .val (.long (((la.toInt64) + (lb.toInt64)) + (lc.toInt64))), .second, .val (.long ((((la.toInt64) + (lb.toInt64)) + (lc.toInt64)) + (ld.toInt64))), .second, .val (.long kk), .second, .val (.long (1 : Int64)), .second] [(.int (lcmpW (scanF (addV (addV (addV (addV [] 0 la.toInt.toNat) (addE 0 la.toInt.toNat) lb.toInt.toNat) (addE (addE 0 la.toInt.toNat) lb.toInt.toNat) lc.toInt.toNat) (addE (addE (addE 0 la.toInt.toNat) lb.toInt.toNat) lc.toInt.toNat) ld.toInt.toNat) (begin_start q0) (0 : Int64) kk ae12) ((q0 + kk) + (4 : Int64))))]))
    refine own_by (fun _ k => XS.ifNo X14.here hx rfl (hb hby at_182) rfl ((if0 _ _).trans (teq ((lw_eq _ _).mpr (fin_law bla blb blc bld hkk.1 hkk.2 hem12 (by rw [if_pos (lt_nat hkk.1 hs1 hc117_13)]) (by decide)))).2) k) ?_
    show OEnds p e below s _ _ _ (T14.setTop (mkF m 185 #[.val (.long q0), .second, .val (.long q1), .second, .val (.int q2), .val (.int q3), .val (.int q4), .val (.int q5), .val (.int la), .val (.int lb), .val (.int lc), .val (.int ld), .val (.ref nb5), .val (.long (la.toInt64)), .second, .val (.long ((la.toInt64) + (lb.toInt64))), .second, .val (.long (((la.toInt64) + (lb.toInt64)) + (lc.toInt64))), .second, .val (.long ((((la.toInt64) + (lb.toInt64)) + (lc.toInt64)) + (ld.toInt64))), .second, .val (.long kk), .second, .val (.long (1 : Int64)), .second] []))
    refine own_by (fun _ k => XS.iconst X14.here hx rfl (hb hby at_185) k) ?_
    show OEnds p e below s _ _ _ (T14.setTop (mkF m 186 #[.val (.long q0), .second, .val (.long q1), .second, .val (.int q2), .val (.int q3), .val (.int q4), .val (.int q5), .val (.int la), .val (.int lb), .val (.int lc), .val (.int ld), .val (.ref nb5), .val (.long (la.toInt64)), .second, .val (.long ((la.toInt64) + (lb.toInt64))), .second, .val (.long (((la.toInt64) + (lb.toInt64)) + (lc.toInt64))), .second, .val (.long ((((la.toInt64) + (lb.toInt64)) + (lc.toInt64)) + (ld.toInt64))), .second, .val (.long kk), .second, .val (.long (1 : Int64)), .second] [(.int (1 : Int32))]))
    refine own_by (fun _ k => XS.goto X14.here hx rfl (pc0 := 186) (pc' := 190) rfl (hb hby at_186) (by decide) (by decide) k) ?_
    show OEnds p e below s _ _ _ (T14.setTop (mkF m 190 #[.val (.long q0), .second, .val (.long q1), .second, .val (.int q2), .val (.int q3), .val (.int q4), .val (.int q5), .val (.int la), .val (.int lb), .val (.int lc), .val (.int ld), .val (.ref nb5), .val (.long (la.toInt64)), .second, .val (.long ((la.toInt64) + (lb.toInt64))), .second, .val (.long (((la.toInt64) + (lb.toInt64)) + (lc.toInt64))), .second, .val (.long ((((la.toInt64) + (lb.toInt64)) + (lc.toInt64)) + (ld.toInt64))), .second, .val (.long kk), .second, .val (.long (1 : Int64)), .second] [(.int (1 : Int32))]))
    exact own_retN X14 hx hlk .boolean (by simp) Bd.returns (hb hby at_190) ⟨rfl, N12⟩ (by decide) (by decide)
  · refine own_by (fun _ k => XS.ifYes X12.here hx rfl (pc0 := 117) (pc' := 126) rfl (hb hby at_117) rfl ((if0 _ _).trans (flt (fun q => hc117_13 ((lw_lt _ _).mp q))).2.1) (by decide) (by decide) k) ?_
    show OEnds p e below s _ _ _ (T12.setTop (mkF m 126 #[.val (.long q0), .second, .val (.long q1), .second, .val (.int q2), .val (.int q3), .val (.int q4), .val (.int q5), .val (.int la), .val (.int lb), .val (.int lc), .val (.int ld), .val (.ref nb5), .val (.long (la.toInt64)), .second, .val (.long ((la.toInt64) + (lb.toInt64))), .second, .val (.long (((la.toInt64) + (lb.toInt64)) + (lc.toInt64))), .second, .val (.long ((((la.toInt64) + (lb.toInt64)) + (lc.toInt64)) + (ld.toInt64))), .second, .val (.long kk), .second, .unset, .unset] []))
    refine own_by (fun _ k => XS.lload X12.here hx rfl (hb hby at_126) rfl k) ?_
    show OEnds p e below s _ _ _ (T12.setTop (mkF m 128 #[.val (.long q0), .second, .val (.long q1), .second, .val (.int q2), .val (.int q3), .val (.int q4), .val (.int q5), .val (.int la), .val (.int lb), .val (.int lc), .val (.int ld), .val (.ref nb5), .val (.long (la.toInt64)), .second, .val (.long ((la.toInt64) + (lb.toInt64))), .second, .val (.long (((la.toInt64) + (lb.toInt64)) + (lc.toInt64))), .second, .val (.long ((((la.toInt64) + (lb.toInt64)) + (lc.toInt64)) + (ld.toInt64))), .second, .val (.long kk), .second, .unset, .unset] [(.long kk)]))
    refine own_by (fun _ k => XS.lload X12.here hx rfl (hb hby at_128) rfl k) ?_
    show OEnds p e below s _ _ _ (T12.setTop (mkF m 130 #[.val (.long q0), .second, .val (.long q1), .second, .val (.int q2), .val (.int q3), .val (.int q4), .val (.int q5), .val (.int la), .val (.int lb), .val (.int lc), .val (.int ld), .val (.ref nb5), .val (.long (la.toInt64)), .second, .val (.long ((la.toInt64) + (lb.toInt64))), .second, .val (.long (((la.toInt64) + (lb.toInt64)) + (lc.toInt64))), .second, .val (.long ((((la.toInt64) + (lb.toInt64)) + (lc.toInt64)) + (ld.toInt64))), .second, .val (.long kk), .second, .unset, .unset] [(.long ((la.toInt64) + (lb.toInt64))), (.long kk)]))
    refine own_by (fun _ k => XS.lcmp X12.here hx rfl (hb hby at_130) rfl k) ?_
    show OEnds p e below s _ _ _ (T12.setTop (mkF m 131 #[.val (.long q0), .second, .val (.long q1), .second, .val (.int q2), .val (.int q3), .val (.int q4), .val (.int q5), .val (.int la), .val (.int lb), .val (.int lc), .val (.int ld), .val (.ref nb5), .val (.long (la.toInt64)), .second, .val (.long ((la.toInt64) + (lb.toInt64))), .second, .val (.long (((la.toInt64) + (lb.toInt64)) + (lc.toInt64))), .second, .val (.long ((((la.toInt64) + (lb.toInt64)) + (lc.toInt64)) + (ld.toInt64))), .second, .val (.long kk), .second, .unset, .unset] [(.int (lcmpW kk ((la.toInt64) + (lb.toInt64))))]))
    by_cases hc131_15 : kk < ((la.toInt64) + (lb.toInt64))
    · refine own_by (fun _ k => XS.ifNo X12.here hx rfl (hb hby at_131) rfl ((if0 _ _).trans (tlt ((lw_lt _ _).mpr hc131_15)).2.1) k) ?_
      show OEnds p e below s _ _ _ (T12.setTop (mkF m 134 #[.val (.long q0), .second, .val (.long q1), .second, .val (.int q2), .val (.int q3), .val (.int q4), .val (.int q5), .val (.int la), .val (.int lb), .val (.int lc), .val (.int ld), .val (.ref nb5), .val (.long (la.toInt64)), .second, .val (.long ((la.toInt64) + (lb.toInt64))), .second, .val (.long (((la.toInt64) + (lb.toInt64)) + (lc.toInt64))), .second, .val (.long ((((la.toInt64) + (lb.toInt64)) + (lc.toInt64)) + (ld.toInt64))), .second, .val (.long kk), .second, .unset, .unset] []))
      refine own_by (X12.ldc2Long hx hown (mvT hZ (hw _ (List.mem_of_getElem? (i := 51) rfl))) (g := (mkF m 134 #[.val (.long q0), .second, .val (.long q1), .second, .val (.int q2), .val (.int q3), .val (.int q4), .val (.int q5), .val (.int la), .val (.int lb), .val (.int lc), .val (.int ld), .val (.ref nb5), .val (.long (la.toInt64)), .second, .val (.long ((la.toInt64) + (lb.toInt64))), .second, .val (.long (((la.toInt64) + (lb.toInt64)) + (lc.toInt64))), .second, .val (.long ((((la.toInt64) + (lb.toInt64)) + (lc.toInt64)) + (ld.toInt64))), .second, .val (.long kk), .second, .unset, .unset] [])) rfl (hb hby at_134)) ?_
      show OEnds p e below s _ _ _ (T12.setTop (mkF m 137 #[.val (.long q0), .second, .val (.long q1), .second, .val (.int q2), .val (.int q3), .val (.int q4), .val (.int q5), .val (.int la), .val (.int lb), .val (.int lc), .val (.int ld), .val (.ref nb5), .val (.long (la.toInt64)), .second, .val (.long ((la.toInt64) + (lb.toInt64))), .second, .val (.long (((la.toInt64) + (lb.toInt64)) + (lc.toInt64))), .second, .val (.long ((((la.toInt64) + (lb.toInt64)) + (lc.toInt64)) + (ld.toInt64))), .second, .val (.long kk), .second, .unset, .unset] [(.long (2 : Int64))]))
      refine own_by (fun _ k => XS.lstore X12.here hx rfl (hb hby at_137) rfl (l' := #[.val (.long q0), .second, .val (.long q1), .second, .val (.int q2), .val (.int q3), .val (.int q4), .val (.int q5), .val (.int la), .val (.int lb), .val (.int lc), .val (.int ld), .val (.ref nb5), .val (.long (la.toInt64)), .second, .val (.long ((la.toInt64) + (lb.toInt64))), .second, .val (.long (((la.toInt64) + (lb.toInt64)) + (lc.toInt64))), .second, .val (.long ((((la.toInt64) + (lb.toInt64)) + (lc.toInt64)) + (ld.toInt64))), .second, .val (.long kk), .second, .val (.long (2 : Int64)), .second]) rfl k) ?_
      show OEnds p e below s _ _ _ (T12.setTop (mkF m 139 #[.val (.long q0), .second, .val (.long q1), .second, .val (.int q2), .val (.int q3), .val (.int q4), .val (.int q5), .val (.int la), .val (.int lb), .val (.int lc), .val (.int ld), .val (.ref nb5), .val (.long (la.toInt64)), .second, .val (.long ((la.toInt64) + (lb.toInt64))), .second, .val (.long (((la.toInt64) + (lb.toInt64)) + (lc.toInt64))), .second, .val (.long ((((la.toInt64) + (lb.toInt64)) + (lc.toInt64)) + (ld.toInt64))), .second, .val (.long kk), .second, .val (.long (2 : Int64)), .second] []))
      refine own_by (fun _ k => XS.goto X12.here hx rfl (pc0 := 139) (pc' := 163) rfl (hb hby at_139) (by decide) (by decide) k) ?_
      show OEnds p e below s _ _ _ (T12.setTop (mkF m 163 #[.val (.long q0), .second, .val (.long q1), .second, .val (.int q2), .val (.int q3), .val (.int q4), .val (.int q5), .val (.int la), .val (.int lb), .val (.int lc), .val (.int ld), .val (.ref nb5), .val (.long (la.toInt64)), .second, .val (.long ((la.toInt64) + (lb.toInt64))), .second, .val (.long (((la.toInt64) + (lb.toInt64)) + (lc.toInt64))), .second, .val (.long ((((la.toInt64) + (lb.toInt64)) + (lc.toInt64)) + (ld.toInt64))), .second, .val (.long kk), .second, .val (.long (2 : Int64)), .second] []))
      refine own_by (fun _ k => XS.aload X12.here hx rfl (hb hby at_163) rfl rfl k) ?_
      show OEnds p e below s _ _ _ (T12.setTop (mkF m 165 #[.val (.long q0), .second, .val (.long q1), .second, .val (.int q2), .val (.int q3), .val (.int q4), .val (.int q5), .val (.int la), .val (.int lb), .val (.int lc), .val (.int ld), .val (.ref nb5), .val (.long (la.toInt64)), .second, .val (.long ((la.toInt64) + (lb.toInt64))), .second, .val (.long (((la.toInt64) + (lb.toInt64)) + (lc.toInt64))), .second, .val (.long ((((la.toInt64) + (lb.toInt64)) + (lc.toInt64)) + (ld.toInt64))), .second, .val (.long kk), .second, .val (.long (2 : Int64)), .second] [(.ref nb5)]))
      refine own_by (fun _ k => XS.lload X12.here hx rfl (hb hby at_165) rfl k) ?_
      show OEnds p e below s _ _ _ (T12.setTop (mkF m 167 #[.val (.long q0), .second, .val (.long q1), .second, .val (.int q2), .val (.int q3), .val (.int q4), .val (.int q5), .val (.int la), .val (.int lb), .val (.int lc), .val (.int ld), .val (.ref nb5), .val (.long (la.toInt64)), .second, .val (.long ((la.toInt64) + (lb.toInt64))), .second, .val (.long (((la.toInt64) + (lb.toInt64)) + (lc.toInt64))), .second, .val (.long ((((la.toInt64) + (lb.toInt64)) + (lc.toInt64)) + (ld.toInt64))), .second, .val (.long kk), .second, .val (.long (2 : Int64)), .second] [(.long kk), (.ref nb5)]))
      obtain ⟨T16, X16, e16, st16⟩ := own_callR X12 hx hZ (y := (⟨"com/example/fourfold/fourfold/xdr/FragmentMap", "inStream", "(J)J"⟩ : MethodName)) hown (hw _ (List.mem_of_getElem? (i := 44) rfl)) (hw _ (List.mem_of_getElem? (i := 45) rfl)) (hw _ (List.mem_of_getElem? (i := 47) rfl)) (hw _ (List.mem_of_getElem? (i := 46) rfl)) (hw _ (List.mem_of_getElem? (i := 48) rfl)) (hw _ (List.mem_of_getElem? (i := 6) rfl)) (by decide) O12.exa (rm_inStream l Z a0 hw [] nb5 kk ab12 (begin_start q0) sz12 ae12 af12 an12 ak12 (addV (addV (addV (addV [] 0 la.toInt.toNat) (addE 0 la.toInt.toNat) lb.toInt.toNat) (addE (addE 0 la.toInt.toNat) lb.toInt.toNat) lc.toInt.toNat) (addE (addE (addE 0 la.toInt.toNat) lb.toInt.toNat) lc.toInt.toNat) ld.toInt.toNat) h12 n0 Z12 O12 F12 hsz12 hE12 hl12 (by omega)) e12 (g := (mkF m 167 #[.val (.long q0), .second, .val (.long q1), .second, .val (.int q2), .val (.int q3), .val (.int q4), .val (.int q5), .val (.int la), .val (.int lb), .val (.int lc), .val (.int ld), .val (.ref nb5), .val (.long (la.toInt64)), .second, .val (.long ((la.toInt64) + (lb.toInt64))), .second, .val (.long (((la.toInt64) + (lb.toInt64)) + (lc.toInt64))), .second, .val (.long ((((la.toInt64) + (lb.toInt64)) + (lc.toInt64)) + (ld.toInt64))), .second, .val (.long kk), .second, .val (.long (2 : Int64)), .second] [(.long kk), (.ref nb5)])) rfl (by rw [hml]; rfl) (argsL := [(.long kk)]) (rest := []) (lenOf pd_pJrJ rfl) rfl (W := 0) (by show 2 * 0 + _ ≤ _; exact Nat.le_of_eq rfl) (hb hby at_167) (by decide) (by decide) (by decide) (by decide)
      refine own_by (st16) ?_
      show OEnds p e below s _ _ _ (T16.setTop (mkF m 170 #[.val (.long q0), .second, .val (.long q1), .second, .val (.int q2), .val (.int q3), .val (.int q4), .val (.int q5), .val (.int la), .val (.int lb), .val (.int lc), .val (.int ld), .val (.ref nb5), .val (.long (la.toInt64)), .second, .val (.long ((la.toInt64) + (lb.toInt64))), .second, .val (.long (((la.toInt64) + (lb.toInt64)) + (lc.toInt64))), .second, .val (.long ((((la.toInt64) + (lb.toInt64)) + (lc.toInt64)) + (ld.toInt64))), .second, .val (.long kk), .second, .val (.long (2 : Int64)), .second] [(.long (scanF (addV (addV (addV (addV [] 0 la.toInt.toNat) (addE 0 la.toInt.toNat) lb.toInt.toNat) (addE (addE 0 la.toInt.toNat) lb.toInt.toNat) lc.toInt.toNat) (addE (addE (addE 0 la.toInt.toNat) lb.toInt.toNat) lc.toInt.toNat) ld.toInt.toNat) (begin_start q0) (0 : Int64) kk ae12))]))
      refine own_by (fun _ k => XS.lloadN X16.here hx rfl (hb hby at_170) rfl k) ?_
      show OEnds p e below s _ _ _ (T16.setTop (mkF m 171 #[.val (.long q0), .second, .val (.long q1), .second, .val (.int q2), .val (.int q3), .val (.int q4), .val (.int q5), .val (.int la), .val (.int lb), .val (.int lc), .val (.int ld), .val (.ref nb5), .val (.long (la.toInt64)), .second, .val (.long ((la.toInt64) + (lb.toInt64))), .second, .val (.long (((la.toInt64) + (lb.toInt64)) + (lc.toInt64))), .second, .val (.long ((((la.toInt64) + (lb.toInt64)) + (lc.toInt64)) + (ld.toInt64))), .second, .val (.long kk), .second, .val (.long (2 : Int64)), .second] [(.long q0), (.long (scanF (addV (addV (addV (addV [] 0 la.toInt.toNat) (addE 0 la.toInt.toNat) lb.toInt.toNat) (addE (addE 0 la.toInt.toNat) lb.toInt.toNat) lc.toInt.toNat) (addE (addE (addE 0 la.toInt.toNat) lb.toInt.toNat) lc.toInt.toNat) ld.toInt.toNat) (begin_start q0) (0 : Int64) kk ae12))]))
      refine own_by (fun _ k => XS.lload X16.here hx rfl (hb hby at_171) rfl k) ?_
      show OEnds p e below s _ _ _ (T16.setTop (mkF m 173 #[.val (.long q0), .second, .val (.long q1), .second, .val (.int q2), .val (.int q3), .val (.int q4), .val (.int q5), .val (.int la), .val (.int lb), .val (.int lc), .val (.int ld), .val (.ref nb5), .val (.long (la.toInt64)), .second, .val (.long ((la.toInt64) + (lb.toInt64))), .second, .val (.long (((la.toInt64) + (lb.toInt64)) + (lc.toInt64))), .second, .val (.long ((((la.toInt64) + (lb.toInt64)) + (lc.toInt64)) + (ld.toInt64))), .second, .val (.long kk), .second, .val (.long (2 : Int64)), .second] [(.long kk), (.long q0), (.long (scanF (addV (addV (addV (addV [] 0 la.toInt.toNat) (addE 0 la.toInt.toNat) lb.toInt.toNat) (addE (addE 0 la.toInt.toNat) lb.toInt.toNat) lc.toInt.toNat) (addE (addE (addE 0 la.toInt.toNat) lb.toInt.toNat) lc.toInt.toNat) ld.toInt.toNat) (begin_start q0) (0 : Int64) kk ae12))]))
      refine own_by (fun _ k => XS.ladd X16.here hx rfl (hb hby at_173) rfl k) ?_
      show OEnds p e below s _ _ _ (T16.setTop (mkF m 174 #[.val (.long q0), .second, .val (.long q1), .second, .val (.int q2), .val (.int q3), .val (.int q4), .val (.int q5), .val (.int la), .val (.int lb), .val (.int lc), .val (.int ld), .val (.ref nb5), .val (.long (la.toInt64)), .second, .val (.long ((la.toInt64) + (lb.toInt64))), .second, .val (.long (((la.toInt64) + (lb.toInt64)) + (lc.toInt64))), .second, .val (.long ((((la.toInt64) + (lb.toInt64)) + (lc.toInt64)) + (ld.toInt64))), .second, .val (.long kk), .second, .val (.long (2 : Int64)), .second] [(.long (q0 + kk)), (.long (scanF (addV (addV (addV (addV [] 0 la.toInt.toNat) (addE 0 la.toInt.toNat) lb.toInt.toNat) (addE (addE 0 la.toInt.toNat) lb.toInt.toNat) lc.toInt.toNat) (addE (addE (addE 0 la.toInt.toNat) lb.toInt.toNat) lc.toInt.toNat) ld.toInt.toNat) (begin_start q0) (0 : Int64) kk ae12))]))
      refine own_by (X16.ldc2Long hx hown (mvT hZ (hw _ (List.mem_of_getElem? (i := 43) rfl))) (g := (mkF m 174 #[.val (.long q0), .second, .val (.long q1), .second, .val (.int q2), .val (.int q3), .val (.int q4), .val (.int q5), .val (.int la), .val (.int lb), .val (.int lc), .val (.int ld), .val (.ref nb5), .val (.long (la.toInt64)), .second, .val (.long ((la.toInt64) + (lb.toInt64))), .second, .val (.long (((la.toInt64) + (lb.toInt64)) + (lc.toInt64))), .second, .val (.long ((((la.toInt64) + (lb.toInt64)) + (lc.toInt64)) + (ld.toInt64))), .second, .val (.long kk), .second, .val (.long (2 : Int64)), .second] [(.long (q0 + kk)), (.long (scanF (addV (addV (addV (addV [] 0 la.toInt.toNat) (addE 0 la.toInt.toNat) lb.toInt.toNat) (addE (addE 0 la.toInt.toNat) lb.toInt.toNat) lc.toInt.toNat) (addE (addE (addE 0 la.toInt.toNat) lb.toInt.toNat) lc.toInt.toNat) ld.toInt.toNat) (begin_start q0) (0 : Int64) kk ae12))])) rfl (hb hby at_174)) ?_
      show OEnds p e below s _ _ _ (T16.setTop (mkF m 177 #[.val (.long q0), .second, .val (.long q1), .second, .val (.int q2), .val (.int q3), .val (.int q4), .val (.int q5), .val (.int la), .val (.int lb), .val (.int lc), .val (.int ld), .val (.ref nb5), .val (.long (la.toInt64)), .second, .val (.long ((la.toInt64) + (lb.toInt64))), .second, .val (.long (((la.toInt64) + (lb.toInt64)) + (lc.toInt64))), .second, .val (.long ((((la.toInt64) + (lb.toInt64)) + (lc.toInt64)) + (ld.toInt64))), .second, .val (.long kk), .second, .val (.long (2 : Int64)), .second] [(.long (4 : Int64)), (.long (q0 + kk)), (.long (scanF (addV (addV (addV (addV [] 0 la.toInt.toNat) (addE 0 la.toInt.toNat) lb.toInt.toNat) (addE (addE 0 la.toInt.toNat) lb.toInt.toNat) lc.toInt.toNat) (addE (addE (addE 0 la.toInt.toNat) lb.toInt.toNat) lc.toInt.toNat) ld.toInt.toNat) (begin_start q0) (0 : Int64) kk ae12))]))
      refine own_by (fun _ k => XS.lload X16.here hx rfl (hb hby at_177) rfl k) ?_
      show OEnds p e below s _ _ _ (T16.setTop (mkF m 179 #[.val (.long q0), .second, .val (.long q1), .second, .val (.int q2), .val (.int q3), .val (.int q4), .val (.int q5), .val (.int la), .val (.int lb), .val (.int lc), .val (.int ld), .val (.ref nb5), .val (.long (la.toInt64)), .second, .val (.long ((la.toInt64) + (lb.toInt64))), .second, .val (.long (((la.toInt64) + (lb.toInt64)) + (lc.toInt64))), .second, .val (.long ((((la.toInt64) + (lb.toInt64)) + (lc.toInt64)) + (ld.toInt64))), .second, .val (.long kk), .second, .val (.long (2 : Int64)), .second] [(.long (2 : Int64)), (.long (4 : Int64)), (.long (q0 + kk)), (.long (scanF (addV (addV (addV (addV [] 0 la.toInt.toNat) (addE 0 la.toInt.toNat) lb.toInt.toNat) (addE (addE 0 la.toInt.toNat) lb.toInt.toNat) lc.toInt.toNat) (addE (addE (addE 0 la.toInt.toNat) lb.toInt.toNat) lc.toInt.toNat) ld.toInt.toNat) (begin_start q0) (0 : Int64) kk ae12))]))
      refine own_by (fun _ k => XS.lmul X16.here hx rfl (hb hby at_179) rfl k) ?_
      show OEnds p e below s _ _ _ (T16.setTop (mkF m 180 #[.val (.long q0), .second, .val (.long q1), .second, .val (.int q2), .val (.int q3), .val (.int q4), .val (.int q5), .val (.int la), .val (.int lb), .val (.int lc), .val (.int ld), .val (.ref nb5), .val (.long (la.toInt64)), .second, .val (.long ((la.toInt64) + (lb.toInt64))), .second, .val (.long (((la.toInt64) + (lb.toInt64)) + (lc.toInt64))), .second, .val (.long ((((la.toInt64) + (lb.toInt64)) + (lc.toInt64)) + (ld.toInt64))), .second, .val (.long kk), .second, .val (.long (2 : Int64)), .second] [(.long (8 : Int64)), (.long (q0 + kk)), (.long (scanF (addV (addV (addV (addV [] 0 la.toInt.toNat) (addE 0 la.toInt.toNat) lb.toInt.toNat) (addE (addE 0 la.toInt.toNat) lb.toInt.toNat) lc.toInt.toNat) (addE (addE (addE 0 la.toInt.toNat) lb.toInt.toNat) lc.toInt.toNat) ld.toInt.toNat) (begin_start q0) (0 : Int64) kk ae12))]))
      refine own_by (fun _ k => XS.ladd X16.here hx rfl (hb hby at_180) rfl k) ?_
      show OEnds p e below s _ _ _ (T16.setTop (mkF m 181 #[.val (.long q0), .second, .val (.long q1), .second, .val (.int q2), .val (.int q3), .val (.int q4), .val (.int q5), .val (.int la), .val (.int lb), .val (.int lc), .val (.int ld), .val (.ref nb5), .val (.long (la.toInt64)), .second, .val (.long ((la.toInt64) + (lb.toInt64))), .second, .val (.long (((la.toInt64) + (lb.toInt64)) + (lc.toInt64))), .second, .val (.long ((((la.toInt64) + (lb.toInt64)) + (lc.toInt64)) + (ld.toInt64))), .second, .val (.long kk), .second, .val (.long (2 : Int64)), .second] [(.long ((q0 + kk) + (8 : Int64))), (.long (scanF (addV (addV (addV (addV [] 0 la.toInt.toNat) (addE 0 la.toInt.toNat) lb.toInt.toNat) (addE (addE 0 la.toInt.toNat) lb.toInt.toNat) lc.toInt.toNat) (addE (addE (addE 0 la.toInt.toNat) lb.toInt.toNat) lc.toInt.toNat) ld.toInt.toNat) (begin_start q0) (0 : Int64) kk ae12))]))
      refine own_by (fun _ k => XS.lcmp X16.here hx rfl (hb hby at_181) rfl k) ?_
      show OEnds p e below s _ _ _ (T16.setTop (mkF m 182 #[.val (.long q0), .second, .val (.long q1), .second, .val (.int q2), .val (.int q3), .val (.int q4), .val (.int q5), .val (.int la), .val (.int lb), .val (.int lc), .val (.int ld), .val (.ref nb5), .val (.long (la.toInt64)), .second, .val (.long ((la.toInt64) + (lb.toInt64))), .second, .val (.long (((la.toInt64) + (lb.toInt64)) + (lc.toInt64))), .second, .val (.long ((((la.toInt64) + (lb.toInt64)) + (lc.toInt64)) + (ld.toInt64))), .second, .val (.long kk), .second, .val (.long (2 : Int64)), .second] [(.int (lcmpW (scanF (addV (addV (addV (addV [] 0 la.toInt.toNat) (addE 0 la.toInt.toNat) lb.toInt.toNat) (addE (addE 0 la.toInt.toNat) lb.toInt.toNat) lc.toInt.toNat) (addE (addE (addE 0 la.toInt.toNat) lb.toInt.toNat) lc.toInt.toNat) ld.toInt.toNat) (begin_start q0) (0 : Int64) kk ae12) ((q0 + kk) + (8 : Int64))))]))
      refine own_by (fun _ k => XS.ifNo X16.here hx rfl (hb hby at_182) rfl ((if0 _ _).trans (teq ((lw_eq _ _).mpr (fin_law bla blb blc bld hkk.1 hkk.2 hem12 (by rw [if_neg (ge_nat hkk.1 hs1 hc117_13), if_pos (lt_nat hkk.1 hs2 hc131_15)]) (by decide)))).2) k) ?_
      show OEnds p e below s _ _ _ (T16.setTop (mkF m 185 #[.val (.long q0), .second, .val (.long q1), .second, .val (.int q2), .val (.int q3), .val (.int q4), .val (.int q5), .val (.int la), .val (.int lb), .val (.int lc), .val (.int ld), .val (.ref nb5), .val (.long (la.toInt64)), .second, .val (.long ((la.toInt64) + (lb.toInt64))), .second, .val (.long (((la.toInt64) + (lb.toInt64)) + (lc.toInt64))), .second, .val (.long ((((la.toInt64) + (lb.toInt64)) + (lc.toInt64)) + (ld.toInt64))), .second, .val (.long kk), .second, .val (.long (2 : Int64)), .second] []))
      refine own_by (fun _ k => XS.iconst X16.here hx rfl (hb hby at_185) k) ?_
      show OEnds p e below s _ _ _ (T16.setTop (mkF m 186 #[.val (.long q0), .second, .val (.long q1), .second, .val (.int q2), .val (.int q3), .val (.int q4), .val (.int q5), .val (.int la), .val (.int lb), .val (.int lc), .val (.int ld), .val (.ref nb5), .val (.long (la.toInt64)), .second, .val (.long ((la.toInt64) + (lb.toInt64))), .second, .val (.long (((la.toInt64) + (lb.toInt64)) + (lc.toInt64))), .second, .val (.long ((((la.toInt64) + (lb.toInt64)) + (lc.toInt64)) + (ld.toInt64))), .second, .val (.long kk), .second, .val (.long (2 : Int64)), .second] [(.int (1 : Int32))]))
      refine own_by (fun _ k => XS.goto X16.here hx rfl (pc0 := 186) (pc' := 190) rfl (hb hby at_186) (by decide) (by decide) k) ?_
      show OEnds p e below s _ _ _ (T16.setTop (mkF m 190 #[.val (.long q0), .second, .val (.long q1), .second, .val (.int q2), .val (.int q3), .val (.int q4), .val (.int q5), .val (.int la), .val (.int lb), .val (.int lc), .val (.int ld), .val (.ref nb5), .val (.long (la.toInt64)), .second, .val (.long ((la.toInt64) + (lb.toInt64))), .second, .val (.long (((la.toInt64) + (lb.toInt64)) + (lc.toInt64))), .second, .val (.long ((((la.toInt64) + (lb.toInt64)) + (lc.toInt64)) + (ld.toInt64))), .second, .val (.long kk), .second, .val (.long (2 : Int64)), .second] [(.int (1 : Int32))]))
      exact own_retN X16 hx hlk .boolean (by simp) Bd.returns (hb hby at_190) ⟨rfl, N12⟩ (by decide) (by decide)
    · refine own_by (fun _ k => XS.ifYes X12.here hx rfl (pc0 := 131) (pc' := 142) rfl (hb hby at_131) rfl ((if0 _ _).trans (flt (fun q => hc131_15 ((lw_lt _ _).mp q))).2.1) (by decide) (by decide) k) ?_
      show OEnds p e below s _ _ _ (T12.setTop (mkF m 142 #[.val (.long q0), .second, .val (.long q1), .second, .val (.int q2), .val (.int q3), .val (.int q4), .val (.int q5), .val (.int la), .val (.int lb), .val (.int lc), .val (.int ld), .val (.ref nb5), .val (.long (la.toInt64)), .second, .val (.long ((la.toInt64) + (lb.toInt64))), .second, .val (.long (((la.toInt64) + (lb.toInt64)) + (lc.toInt64))), .second, .val (.long ((((la.toInt64) + (lb.toInt64)) + (lc.toInt64)) + (ld.toInt64))), .second, .val (.long kk), .second, .unset, .unset] []))
      refine own_by (fun _ k => XS.lload X12.here hx rfl (hb hby at_142) rfl k) ?_
      show OEnds p e below s _ _ _ (T12.setTop (mkF m 144 #[.val (.long q0), .second, .val (.long q1), .second, .val (.int q2), .val (.int q3), .val (.int q4), .val (.int q5), .val (.int la), .val (.int lb), .val (.int lc), .val (.int ld), .val (.ref nb5), .val (.long (la.toInt64)), .second, .val (.long ((la.toInt64) + (lb.toInt64))), .second, .val (.long (((la.toInt64) + (lb.toInt64)) + (lc.toInt64))), .second, .val (.long ((((la.toInt64) + (lb.toInt64)) + (lc.toInt64)) + (ld.toInt64))), .second, .val (.long kk), .second, .unset, .unset] [(.long kk)]))
      refine own_by (fun _ k => XS.lload X12.here hx rfl (hb hby at_144) rfl k) ?_
      show OEnds p e below s _ _ _ (T12.setTop (mkF m 146 #[.val (.long q0), .second, .val (.long q1), .second, .val (.int q2), .val (.int q3), .val (.int q4), .val (.int q5), .val (.int la), .val (.int lb), .val (.int lc), .val (.int ld), .val (.ref nb5), .val (.long (la.toInt64)), .second, .val (.long ((la.toInt64) + (lb.toInt64))), .second, .val (.long (((la.toInt64) + (lb.toInt64)) + (lc.toInt64))), .second, .val (.long ((((la.toInt64) + (lb.toInt64)) + (lc.toInt64)) + (ld.toInt64))), .second, .val (.long kk), .second, .unset, .unset] [(.long (((la.toInt64) + (lb.toInt64)) + (lc.toInt64))), (.long kk)]))
      refine own_by (fun _ k => XS.lcmp X12.here hx rfl (hb hby at_146) rfl k) ?_
      show OEnds p e below s _ _ _ (T12.setTop (mkF m 147 #[.val (.long q0), .second, .val (.long q1), .second, .val (.int q2), .val (.int q3), .val (.int q4), .val (.int q5), .val (.int la), .val (.int lb), .val (.int lc), .val (.int ld), .val (.ref nb5), .val (.long (la.toInt64)), .second, .val (.long ((la.toInt64) + (lb.toInt64))), .second, .val (.long (((la.toInt64) + (lb.toInt64)) + (lc.toInt64))), .second, .val (.long ((((la.toInt64) + (lb.toInt64)) + (lc.toInt64)) + (ld.toInt64))), .second, .val (.long kk), .second, .unset, .unset] [(.int (lcmpW kk (((la.toInt64) + (lb.toInt64)) + (lc.toInt64))))]))
      by_cases hc147_17 : kk < (((la.toInt64) + (lb.toInt64)) + (lc.toInt64))
      · refine own_by (fun _ k => XS.ifNo X12.here hx rfl (hb hby at_147) rfl ((if0 _ _).trans (tlt ((lw_lt _ _).mpr hc147_17)).2.1) k) ?_
        show OEnds p e below s _ _ _ (T12.setTop (mkF m 150 #[.val (.long q0), .second, .val (.long q1), .second, .val (.int q2), .val (.int q3), .val (.int q4), .val (.int q5), .val (.int la), .val (.int lb), .val (.int lc), .val (.int ld), .val (.ref nb5), .val (.long (la.toInt64)), .second, .val (.long ((la.toInt64) + (lb.toInt64))), .second, .val (.long (((la.toInt64) + (lb.toInt64)) + (lc.toInt64))), .second, .val (.long ((((la.toInt64) + (lb.toInt64)) + (lc.toInt64)) + (ld.toInt64))), .second, .val (.long kk), .second, .unset, .unset] []))
        refine own_by (X12.ldc2Long hx hown (mvT hZ (hw _ (List.mem_of_getElem? (i := 50) rfl))) (g := (mkF m 150 #[.val (.long q0), .second, .val (.long q1), .second, .val (.int q2), .val (.int q3), .val (.int q4), .val (.int q5), .val (.int la), .val (.int lb), .val (.int lc), .val (.int ld), .val (.ref nb5), .val (.long (la.toInt64)), .second, .val (.long ((la.toInt64) + (lb.toInt64))), .second, .val (.long (((la.toInt64) + (lb.toInt64)) + (lc.toInt64))), .second, .val (.long ((((la.toInt64) + (lb.toInt64)) + (lc.toInt64)) + (ld.toInt64))), .second, .val (.long kk), .second, .unset, .unset] [])) rfl (hb hby at_150)) ?_
        show OEnds p e below s _ _ _ (T12.setTop (mkF m 153 #[.val (.long q0), .second, .val (.long q1), .second, .val (.int q2), .val (.int q3), .val (.int q4), .val (.int q5), .val (.int la), .val (.int lb), .val (.int lc), .val (.int ld), .val (.ref nb5), .val (.long (la.toInt64)), .second, .val (.long ((la.toInt64) + (lb.toInt64))), .second, .val (.long (((la.toInt64) + (lb.toInt64)) + (lc.toInt64))), .second, .val (.long ((((la.toInt64) + (lb.toInt64)) + (lc.toInt64)) + (ld.toInt64))), .second, .val (.long kk), .second, .unset, .unset] [(.long (3 : Int64))]))
        refine own_by (fun _ k => XS.lstore X12.here hx rfl (hb hby at_153) rfl (l' := #[.val (.long q0), .second, .val (.long q1), .second, .val (.int q2), .val (.int q3), .val (.int q4), .val (.int q5), .val (.int la), .val (.int lb), .val (.int lc), .val (.int ld), .val (.ref nb5), .val (.long (la.toInt64)), .second, .val (.long ((la.toInt64) + (lb.toInt64))), .second, .val (.long (((la.toInt64) + (lb.toInt64)) + (lc.toInt64))), .second, .val (.long ((((la.toInt64) + (lb.toInt64)) + (lc.toInt64)) + (ld.toInt64))), .second, .val (.long kk), .second, .val (.long (3 : Int64)), .second]) rfl k) ?_
        show OEnds p e below s _ _ _ (T12.setTop (mkF m 155 #[.val (.long q0), .second, .val (.long q1), .second, .val (.int q2), .val (.int q3), .val (.int q4), .val (.int q5), .val (.int la), .val (.int lb), .val (.int lc), .val (.int ld), .val (.ref nb5), .val (.long (la.toInt64)), .second, .val (.long ((la.toInt64) + (lb.toInt64))), .second, .val (.long (((la.toInt64) + (lb.toInt64)) + (lc.toInt64))), .second, .val (.long ((((la.toInt64) + (lb.toInt64)) + (lc.toInt64)) + (ld.toInt64))), .second, .val (.long kk), .second, .val (.long (3 : Int64)), .second] []))
        refine own_by (fun _ k => XS.goto X12.here hx rfl (pc0 := 155) (pc' := 163) rfl (hb hby at_155) (by decide) (by decide) k) ?_
        show OEnds p e below s _ _ _ (T12.setTop (mkF m 163 #[.val (.long q0), .second, .val (.long q1), .second, .val (.int q2), .val (.int q3), .val (.int q4), .val (.int q5), .val (.int la), .val (.int lb), .val (.int lc), .val (.int ld), .val (.ref nb5), .val (.long (la.toInt64)), .second, .val (.long ((la.toInt64) + (lb.toInt64))), .second, .val (.long (((la.toInt64) + (lb.toInt64)) + (lc.toInt64))), .second, .val (.long ((((la.toInt64) + (lb.toInt64)) + (lc.toInt64)) + (ld.toInt64))), .second, .val (.long kk), .second, .val (.long (3 : Int64)), .second] []))
        refine own_by (fun _ k => XS.aload X12.here hx rfl (hb hby at_163) rfl rfl k) ?_
        show OEnds p e below s _ _ _ (T12.setTop (mkF m 165 #[.val (.long q0), .second, .val (.long q1), .second, .val (.int q2), .val (.int q3), .val (.int q4), .val (.int q5), .val (.int la), .val (.int lb), .val (.int lc), .val (.int ld), .val (.ref nb5), .val (.long (la.toInt64)), .second, .val (.long ((la.toInt64) + (lb.toInt64))), .second, .val (.long (((la.toInt64) + (lb.toInt64)) + (lc.toInt64))), .second, .val (.long ((((la.toInt64) + (lb.toInt64)) + (lc.toInt64)) + (ld.toInt64))), .second, .val (.long kk), .second, .val (.long (3 : Int64)), .second] [(.ref nb5)]))
        refine own_by (fun _ k => XS.lload X12.here hx rfl (hb hby at_165) rfl k) ?_
        show OEnds p e below s _ _ _ (T12.setTop (mkF m 167 #[.val (.long q0), .second, .val (.long q1), .second, .val (.int q2), .val (.int q3), .val (.int q4), .val (.int q5), .val (.int la), .val (.int lb), .val (.int lc), .val (.int ld), .val (.ref nb5), .val (.long (la.toInt64)), .second, .val (.long ((la.toInt64) + (lb.toInt64))), .second, .val (.long (((la.toInt64) + (lb.toInt64)) + (lc.toInt64))), .second, .val (.long ((((la.toInt64) + (lb.toInt64)) + (lc.toInt64)) + (ld.toInt64))), .second, .val (.long kk), .second, .val (.long (3 : Int64)), .second] [(.long kk), (.ref nb5)]))
        obtain ⟨T18, X18, e18, st18⟩ := own_callR X12 hx hZ (y := (⟨"com/example/fourfold/fourfold/xdr/FragmentMap", "inStream", "(J)J"⟩ : MethodName)) hown (hw _ (List.mem_of_getElem? (i := 44) rfl)) (hw _ (List.mem_of_getElem? (i := 45) rfl)) (hw _ (List.mem_of_getElem? (i := 47) rfl)) (hw _ (List.mem_of_getElem? (i := 46) rfl)) (hw _ (List.mem_of_getElem? (i := 48) rfl)) (hw _ (List.mem_of_getElem? (i := 6) rfl)) (by decide) O12.exa (rm_inStream l Z a0 hw [] nb5 kk ab12 (begin_start q0) sz12 ae12 af12 an12 ak12 (addV (addV (addV (addV [] 0 la.toInt.toNat) (addE 0 la.toInt.toNat) lb.toInt.toNat) (addE (addE 0 la.toInt.toNat) lb.toInt.toNat) lc.toInt.toNat) (addE (addE (addE 0 la.toInt.toNat) lb.toInt.toNat) lc.toInt.toNat) ld.toInt.toNat) h12 n0 Z12 O12 F12 hsz12 hE12 hl12 (by omega)) e12 (g := (mkF m 167 #[.val (.long q0), .second, .val (.long q1), .second, .val (.int q2), .val (.int q3), .val (.int q4), .val (.int q5), .val (.int la), .val (.int lb), .val (.int lc), .val (.int ld), .val (.ref nb5), .val (.long (la.toInt64)), .second, .val (.long ((la.toInt64) + (lb.toInt64))), .second, .val (.long (((la.toInt64) + (lb.toInt64)) + (lc.toInt64))), .second, .val (.long ((((la.toInt64) + (lb.toInt64)) + (lc.toInt64)) + (ld.toInt64))), .second, .val (.long kk), .second, .val (.long (3 : Int64)), .second] [(.long kk), (.ref nb5)])) rfl (by rw [hml]; rfl) (argsL := [(.long kk)]) (rest := []) (lenOf pd_pJrJ rfl) rfl (W := 0) (by show 2 * 0 + _ ≤ _; exact Nat.le_of_eq rfl) (hb hby at_167) (by decide) (by decide) (by decide) (by decide)
        refine own_by (st18) ?_
        show OEnds p e below s _ _ _ (T18.setTop (mkF m 170 #[.val (.long q0), .second, .val (.long q1), .second, .val (.int q2), .val (.int q3), .val (.int q4), .val (.int q5), .val (.int la), .val (.int lb), .val (.int lc), .val (.int ld), .val (.ref nb5), .val (.long (la.toInt64)), .second, .val (.long ((la.toInt64) + (lb.toInt64))), .second, .val (.long (((la.toInt64) + (lb.toInt64)) + (lc.toInt64))), .second, .val (.long ((((la.toInt64) + (lb.toInt64)) + (lc.toInt64)) + (ld.toInt64))), .second, .val (.long kk), .second, .val (.long (3 : Int64)), .second] [(.long (scanF (addV (addV (addV (addV [] 0 la.toInt.toNat) (addE 0 la.toInt.toNat) lb.toInt.toNat) (addE (addE 0 la.toInt.toNat) lb.toInt.toNat) lc.toInt.toNat) (addE (addE (addE 0 la.toInt.toNat) lb.toInt.toNat) lc.toInt.toNat) ld.toInt.toNat) (begin_start q0) (0 : Int64) kk ae12))]))
        refine own_by (fun _ k => XS.lloadN X18.here hx rfl (hb hby at_170) rfl k) ?_
        show OEnds p e below s _ _ _ (T18.setTop (mkF m 171 #[.val (.long q0), .second, .val (.long q1), .second, .val (.int q2), .val (.int q3), .val (.int q4), .val (.int q5), .val (.int la), .val (.int lb), .val (.int lc), .val (.int ld), .val (.ref nb5), .val (.long (la.toInt64)), .second, .val (.long ((la.toInt64) + (lb.toInt64))), .second, .val (.long (((la.toInt64) + (lb.toInt64)) + (lc.toInt64))), .second, .val (.long ((((la.toInt64) + (lb.toInt64)) + (lc.toInt64)) + (ld.toInt64))), .second, .val (.long kk), .second, .val (.long (3 : Int64)), .second] [(.long q0), (.long (scanF (addV (addV (addV (addV [] 0 la.toInt.toNat) (addE 0 la.toInt.toNat) lb.toInt.toNat) (addE (addE 0 la.toInt.toNat) lb.toInt.toNat) lc.toInt.toNat) (addE (addE (addE 0 la.toInt.toNat) lb.toInt.toNat) lc.toInt.toNat) ld.toInt.toNat) (begin_start q0) (0 : Int64) kk ae12))]))
        refine own_by (fun _ k => XS.lload X18.here hx rfl (hb hby at_171) rfl k) ?_
        show OEnds p e below s _ _ _ (T18.setTop (mkF m 173 #[.val (.long q0), .second, .val (.long q1), .second, .val (.int q2), .val (.int q3), .val (.int q4), .val (.int q5), .val (.int la), .val (.int lb), .val (.int lc), .val (.int ld), .val (.ref nb5), .val (.long (la.toInt64)), .second, .val (.long ((la.toInt64) + (lb.toInt64))), .second, .val (.long (((la.toInt64) + (lb.toInt64)) + (lc.toInt64))), .second, .val (.long ((((la.toInt64) + (lb.toInt64)) + (lc.toInt64)) + (ld.toInt64))), .second, .val (.long kk), .second, .val (.long (3 : Int64)), .second] [(.long kk), (.long q0), (.long (scanF (addV (addV (addV (addV [] 0 la.toInt.toNat) (addE 0 la.toInt.toNat) lb.toInt.toNat) (addE (addE 0 la.toInt.toNat) lb.toInt.toNat) lc.toInt.toNat) (addE (addE (addE 0 la.toInt.toNat) lb.toInt.toNat) lc.toInt.toNat) ld.toInt.toNat) (begin_start q0) (0 : Int64) kk ae12))]))
        refine own_by (fun _ k => XS.ladd X18.here hx rfl (hb hby at_173) rfl k) ?_
        show OEnds p e below s _ _ _ (T18.setTop (mkF m 174 #[.val (.long q0), .second, .val (.long q1), .second, .val (.int q2), .val (.int q3), .val (.int q4), .val (.int q5), .val (.int la), .val (.int lb), .val (.int lc), .val (.int ld), .val (.ref nb5), .val (.long (la.toInt64)), .second, .val (.long ((la.toInt64) + (lb.toInt64))), .second, .val (.long (((la.toInt64) + (lb.toInt64)) + (lc.toInt64))), .second, .val (.long ((((la.toInt64) + (lb.toInt64)) + (lc.toInt64)) + (ld.toInt64))), .second, .val (.long kk), .second, .val (.long (3 : Int64)), .second] [(.long (q0 + kk)), (.long (scanF (addV (addV (addV (addV [] 0 la.toInt.toNat) (addE 0 la.toInt.toNat) lb.toInt.toNat) (addE (addE 0 la.toInt.toNat) lb.toInt.toNat) lc.toInt.toNat) (addE (addE (addE 0 la.toInt.toNat) lb.toInt.toNat) lc.toInt.toNat) ld.toInt.toNat) (begin_start q0) (0 : Int64) kk ae12))]))
        refine own_by (X18.ldc2Long hx hown (mvT hZ (hw _ (List.mem_of_getElem? (i := 43) rfl))) (g := (mkF m 174 #[.val (.long q0), .second, .val (.long q1), .second, .val (.int q2), .val (.int q3), .val (.int q4), .val (.int q5), .val (.int la), .val (.int lb), .val (.int lc), .val (.int ld), .val (.ref nb5), .val (.long (la.toInt64)), .second, .val (.long ((la.toInt64) + (lb.toInt64))), .second, .val (.long (((la.toInt64) + (lb.toInt64)) + (lc.toInt64))), .second, .val (.long ((((la.toInt64) + (lb.toInt64)) + (lc.toInt64)) + (ld.toInt64))), .second, .val (.long kk), .second, .val (.long (3 : Int64)), .second] [(.long (q0 + kk)), (.long (scanF (addV (addV (addV (addV [] 0 la.toInt.toNat) (addE 0 la.toInt.toNat) lb.toInt.toNat) (addE (addE 0 la.toInt.toNat) lb.toInt.toNat) lc.toInt.toNat) (addE (addE (addE 0 la.toInt.toNat) lb.toInt.toNat) lc.toInt.toNat) ld.toInt.toNat) (begin_start q0) (0 : Int64) kk ae12))])) rfl (hb hby at_174)) ?_
        show OEnds p e below s _ _ _ (T18.setTop (mkF m 177 #[.val (.long q0), .second, .val (.long q1), .second, .val (.int q2), .val (.int q3), .val (.int q4), .val (.int q5), .val (.int la), .val (.int lb), .val (.int lc), .val (.int ld), .val (.ref nb5), .val (.long (la.toInt64)), .second, .val (.long ((la.toInt64) + (lb.toInt64))), .second, .val (.long (((la.toInt64) + (lb.toInt64)) + (lc.toInt64))), .second, .val (.long ((((la.toInt64) + (lb.toInt64)) + (lc.toInt64)) + (ld.toInt64))), .second, .val (.long kk), .second, .val (.long (3 : Int64)), .second] [(.long (4 : Int64)), (.long (q0 + kk)), (.long (scanF (addV (addV (addV (addV [] 0 la.toInt.toNat) (addE 0 la.toInt.toNat) lb.toInt.toNat) (addE (addE 0 la.toInt.toNat) lb.toInt.toNat) lc.toInt.toNat) (addE (addE (addE 0 la.toInt.toNat) lb.toInt.toNat) lc.toInt.toNat) ld.toInt.toNat) (begin_start q0) (0 : Int64) kk ae12))]))
        refine own_by (fun _ k => XS.lload X18.here hx rfl (hb hby at_177) rfl k) ?_
        show OEnds p e below s _ _ _ (T18.setTop (mkF m 179 #[.val (.long q0), .second, .val (.long q1), .second, .val (.int q2), .val (.int q3), .val (.int q4), .val (.int q5), .val (.int la), .val (.int lb), .val (.int lc), .val (.int ld), .val (.ref nb5), .val (.long (la.toInt64)), .second, .val (.long ((la.toInt64) + (lb.toInt64))), .second, .val (.long (((la.toInt64) + (lb.toInt64)) + (lc.toInt64))), .second, .val (.long ((((la.toInt64) + (lb.toInt64)) + (lc.toInt64)) + (ld.toInt64))), .second, .val (.long kk), .second, .val (.long (3 : Int64)), .second] [(.long (3 : Int64)), (.long (4 : Int64)), (.long (q0 + kk)), (.long (scanF (addV (addV (addV (addV [] 0 la.toInt.toNat) (addE 0 la.toInt.toNat) lb.toInt.toNat) (addE (addE 0 la.toInt.toNat) lb.toInt.toNat) lc.toInt.toNat) (addE (addE (addE 0 la.toInt.toNat) lb.toInt.toNat) lc.toInt.toNat) ld.toInt.toNat) (begin_start q0) (0 : Int64) kk ae12))]))
        refine own_by (fun _ k => XS.lmul X18.here hx rfl (hb hby at_179) rfl k) ?_
        show OEnds p e below s _ _ _ (T18.setTop (mkF m 180 #[.val (.long q0), .second, .val (.long q1), .second, .val (.int q2), .val (.int q3), .val (.int q4), .val (.int q5), .val (.int la), .val (.int lb), .val (.int lc), .val (.int ld), .val (.ref nb5), .val (.long (la.toInt64)), .second, .val (.long ((la.toInt64) + (lb.toInt64))), .second, .val (.long (((la.toInt64) + (lb.toInt64)) + (lc.toInt64))), .second, .val (.long ((((la.toInt64) + (lb.toInt64)) + (lc.toInt64)) + (ld.toInt64))), .second, .val (.long kk), .second, .val (.long (3 : Int64)), .second] [(.long (12 : Int64)), (.long (q0 + kk)), (.long (scanF (addV (addV (addV (addV [] 0 la.toInt.toNat) (addE 0 la.toInt.toNat) lb.toInt.toNat) (addE (addE 0 la.toInt.toNat) lb.toInt.toNat) lc.toInt.toNat) (addE (addE (addE 0 la.toInt.toNat) lb.toInt.toNat) lc.toInt.toNat) ld.toInt.toNat) (begin_start q0) (0 : Int64) kk ae12))]))
        refine own_by (fun _ k => XS.ladd X18.here hx rfl (hb hby at_180) rfl k) ?_
        show OEnds p e below s _ _ _ (T18.setTop (mkF m 181 #[.val (.long q0), .second, .val (.long q1), .second, .val (.int q2), .val (.int q3), .val (.int q4), .val (.int q5), .val (.int la), .val (.int lb), .val (.int lc), .val (.int ld), .val (.ref nb5), .val (.long (la.toInt64)), .second, .val (.long ((la.toInt64) + (lb.toInt64))), .second, .val (.long (((la.toInt64) + (lb.toInt64)) + (lc.toInt64))), .second, .val (.long ((((la.toInt64) + (lb.toInt64)) + (lc.toInt64)) + (ld.toInt64))), .second, .val (.long kk), .second, .val (.long (3 : Int64)), .second] [(.long ((q0 + kk) + (12 : Int64))), (.long (scanF (addV (addV (addV (addV [] 0 la.toInt.toNat) (addE 0 la.toInt.toNat) lb.toInt.toNat) (addE (addE 0 la.toInt.toNat) lb.toInt.toNat) lc.toInt.toNat) (addE (addE (addE 0 la.toInt.toNat) lb.toInt.toNat) lc.toInt.toNat) ld.toInt.toNat) (begin_start q0) (0 : Int64) kk ae12))]))
        refine own_by (fun _ k => XS.lcmp X18.here hx rfl (hb hby at_181) rfl k) ?_
        show OEnds p e below s _ _ _ (T18.setTop (mkF m 182 #[.val (.long q0), .second, .val (.long q1), .second, .val (.int q2), .val (.int q3), .val (.int q4), .val (.int q5), .val (.int la), .val (.int lb), .val (.int lc), .val (.int ld), .val (.ref nb5), .val (.long (la.toInt64)), .second, .val (.long ((la.toInt64) + (lb.toInt64))), .second, .val (.long (((la.toInt64) + (lb.toInt64)) + (lc.toInt64))), .second, .val (.long ((((la.toInt64) + (lb.toInt64)) + (lc.toInt64)) + (ld.toInt64))), .second, .val (.long kk), .second, .val (.long (3 : Int64)), .second] [(.int (lcmpW (scanF (addV (addV (addV (addV [] 0 la.toInt.toNat) (addE 0 la.toInt.toNat) lb.toInt.toNat) (addE (addE 0 la.toInt.toNat) lb.toInt.toNat) lc.toInt.toNat) (addE (addE (addE 0 la.toInt.toNat) lb.toInt.toNat) lc.toInt.toNat) ld.toInt.toNat) (begin_start q0) (0 : Int64) kk ae12) ((q0 + kk) + (12 : Int64))))]))
        refine own_by (fun _ k => XS.ifNo X18.here hx rfl (hb hby at_182) rfl ((if0 _ _).trans (teq ((lw_eq _ _).mpr (fin_law bla blb blc bld hkk.1 hkk.2 hem12 (by rw [if_neg (ge_nat hkk.1 hs1 hc117_13), if_neg (ge_nat hkk.1 hs2 hc131_15), if_pos (lt_nat hkk.1 hs3 hc147_17)]) (by decide)))).2) k) ?_
        show OEnds p e below s _ _ _ (T18.setTop (mkF m 185 #[.val (.long q0), .second, .val (.long q1), .second, .val (.int q2), .val (.int q3), .val (.int q4), .val (.int q5), .val (.int la), .val (.int lb), .val (.int lc), .val (.int ld), .val (.ref nb5), .val (.long (la.toInt64)), .second, .val (.long ((la.toInt64) + (lb.toInt64))), .second, .val (.long (((la.toInt64) + (lb.toInt64)) + (lc.toInt64))), .second, .val (.long ((((la.toInt64) + (lb.toInt64)) + (lc.toInt64)) + (ld.toInt64))), .second, .val (.long kk), .second, .val (.long (3 : Int64)), .second] []))
        refine own_by (fun _ k => XS.iconst X18.here hx rfl (hb hby at_185) k) ?_
        show OEnds p e below s _ _ _ (T18.setTop (mkF m 186 #[.val (.long q0), .second, .val (.long q1), .second, .val (.int q2), .val (.int q3), .val (.int q4), .val (.int q5), .val (.int la), .val (.int lb), .val (.int lc), .val (.int ld), .val (.ref nb5), .val (.long (la.toInt64)), .second, .val (.long ((la.toInt64) + (lb.toInt64))), .second, .val (.long (((la.toInt64) + (lb.toInt64)) + (lc.toInt64))), .second, .val (.long ((((la.toInt64) + (lb.toInt64)) + (lc.toInt64)) + (ld.toInt64))), .second, .val (.long kk), .second, .val (.long (3 : Int64)), .second] [(.int (1 : Int32))]))
        refine own_by (fun _ k => XS.goto X18.here hx rfl (pc0 := 186) (pc' := 190) rfl (hb hby at_186) (by decide) (by decide) k) ?_
        show OEnds p e below s _ _ _ (T18.setTop (mkF m 190 #[.val (.long q0), .second, .val (.long q1), .second, .val (.int q2), .val (.int q3), .val (.int q4), .val (.int q5), .val (.int la), .val (.int lb), .val (.int lc), .val (.int ld), .val (.ref nb5), .val (.long (la.toInt64)), .second, .val (.long ((la.toInt64) + (lb.toInt64))), .second, .val (.long (((la.toInt64) + (lb.toInt64)) + (lc.toInt64))), .second, .val (.long ((((la.toInt64) + (lb.toInt64)) + (lc.toInt64)) + (ld.toInt64))), .second, .val (.long kk), .second, .val (.long (3 : Int64)), .second] [(.int (1 : Int32))]))
        exact own_retN X18 hx hlk .boolean (by simp) Bd.returns (hb hby at_190) ⟨rfl, N12⟩ (by decide) (by decide)
      · refine own_by (fun _ k => XS.ifYes X12.here hx rfl (pc0 := 147) (pc' := 158) rfl (hb hby at_147) rfl ((if0 _ _).trans (flt (fun q => hc147_17 ((lw_lt _ _).mp q))).2.1) (by decide) (by decide) k) ?_
        show OEnds p e below s _ _ _ (T12.setTop (mkF m 158 #[.val (.long q0), .second, .val (.long q1), .second, .val (.int q2), .val (.int q3), .val (.int q4), .val (.int q5), .val (.int la), .val (.int lb), .val (.int lc), .val (.int ld), .val (.ref nb5), .val (.long (la.toInt64)), .second, .val (.long ((la.toInt64) + (lb.toInt64))), .second, .val (.long (((la.toInt64) + (lb.toInt64)) + (lc.toInt64))), .second, .val (.long ((((la.toInt64) + (lb.toInt64)) + (lc.toInt64)) + (ld.toInt64))), .second, .val (.long kk), .second, .unset, .unset] []))
        refine own_by (X12.ldc2Long hx hown (mvT hZ (hw _ (List.mem_of_getElem? (i := 43) rfl))) (g := (mkF m 158 #[.val (.long q0), .second, .val (.long q1), .second, .val (.int q2), .val (.int q3), .val (.int q4), .val (.int q5), .val (.int la), .val (.int lb), .val (.int lc), .val (.int ld), .val (.ref nb5), .val (.long (la.toInt64)), .second, .val (.long ((la.toInt64) + (lb.toInt64))), .second, .val (.long (((la.toInt64) + (lb.toInt64)) + (lc.toInt64))), .second, .val (.long ((((la.toInt64) + (lb.toInt64)) + (lc.toInt64)) + (ld.toInt64))), .second, .val (.long kk), .second, .unset, .unset] [])) rfl (hb hby at_158)) ?_
        show OEnds p e below s _ _ _ (T12.setTop (mkF m 161 #[.val (.long q0), .second, .val (.long q1), .second, .val (.int q2), .val (.int q3), .val (.int q4), .val (.int q5), .val (.int la), .val (.int lb), .val (.int lc), .val (.int ld), .val (.ref nb5), .val (.long (la.toInt64)), .second, .val (.long ((la.toInt64) + (lb.toInt64))), .second, .val (.long (((la.toInt64) + (lb.toInt64)) + (lc.toInt64))), .second, .val (.long ((((la.toInt64) + (lb.toInt64)) + (lc.toInt64)) + (ld.toInt64))), .second, .val (.long kk), .second, .unset, .unset] [(.long (4 : Int64))]))
        refine own_by (fun _ k => XS.lstore X12.here hx rfl (hb hby at_161) rfl (l' := #[.val (.long q0), .second, .val (.long q1), .second, .val (.int q2), .val (.int q3), .val (.int q4), .val (.int q5), .val (.int la), .val (.int lb), .val (.int lc), .val (.int ld), .val (.ref nb5), .val (.long (la.toInt64)), .second, .val (.long ((la.toInt64) + (lb.toInt64))), .second, .val (.long (((la.toInt64) + (lb.toInt64)) + (lc.toInt64))), .second, .val (.long ((((la.toInt64) + (lb.toInt64)) + (lc.toInt64)) + (ld.toInt64))), .second, .val (.long kk), .second, .val (.long (4 : Int64)), .second]) rfl k) ?_
        show OEnds p e below s _ _ _ (T12.setTop (mkF m 163 #[.val (.long q0), .second, .val (.long q1), .second, .val (.int q2), .val (.int q3), .val (.int q4), .val (.int q5), .val (.int la), .val (.int lb), .val (.int lc), .val (.int ld), .val (.ref nb5), .val (.long (la.toInt64)), .second, .val (.long ((la.toInt64) + (lb.toInt64))), .second, .val (.long (((la.toInt64) + (lb.toInt64)) + (lc.toInt64))), .second, .val (.long ((((la.toInt64) + (lb.toInt64)) + (lc.toInt64)) + (ld.toInt64))), .second, .val (.long kk), .second, .val (.long (4 : Int64)), .second] []))
        refine own_by (fun _ k => XS.aload X12.here hx rfl (hb hby at_163) rfl rfl k) ?_
        show OEnds p e below s _ _ _ (T12.setTop (mkF m 165 #[.val (.long q0), .second, .val (.long q1), .second, .val (.int q2), .val (.int q3), .val (.int q4), .val (.int q5), .val (.int la), .val (.int lb), .val (.int lc), .val (.int ld), .val (.ref nb5), .val (.long (la.toInt64)), .second, .val (.long ((la.toInt64) + (lb.toInt64))), .second, .val (.long (((la.toInt64) + (lb.toInt64)) + (lc.toInt64))), .second, .val (.long ((((la.toInt64) + (lb.toInt64)) + (lc.toInt64)) + (ld.toInt64))), .second, .val (.long kk), .second, .val (.long (4 : Int64)), .second] [(.ref nb5)]))
        refine own_by (fun _ k => XS.lload X12.here hx rfl (hb hby at_165) rfl k) ?_
        show OEnds p e below s _ _ _ (T12.setTop (mkF m 167 #[.val (.long q0), .second, .val (.long q1), .second, .val (.int q2), .val (.int q3), .val (.int q4), .val (.int q5), .val (.int la), .val (.int lb), .val (.int lc), .val (.int ld), .val (.ref nb5), .val (.long (la.toInt64)), .second, .val (.long ((la.toInt64) + (lb.toInt64))), .second, .val (.long (((la.toInt64) + (lb.toInt64)) + (lc.toInt64))), .second, .val (.long ((((la.toInt64) + (lb.toInt64)) + (lc.toInt64)) + (ld.toInt64))), .second, .val (.long kk), .second, .val (.long (4 : Int64)), .second] [(.long kk), (.ref nb5)]))
        obtain ⟨T19, X19, e19, st19⟩ := own_callR X12 hx hZ (y := (⟨"com/example/fourfold/fourfold/xdr/FragmentMap", "inStream", "(J)J"⟩ : MethodName)) hown (hw _ (List.mem_of_getElem? (i := 44) rfl)) (hw _ (List.mem_of_getElem? (i := 45) rfl)) (hw _ (List.mem_of_getElem? (i := 47) rfl)) (hw _ (List.mem_of_getElem? (i := 46) rfl)) (hw _ (List.mem_of_getElem? (i := 48) rfl)) (hw _ (List.mem_of_getElem? (i := 6) rfl)) (by decide) O12.exa (rm_inStream l Z a0 hw [] nb5 kk ab12 (begin_start q0) sz12 ae12 af12 an12 ak12 (addV (addV (addV (addV [] 0 la.toInt.toNat) (addE 0 la.toInt.toNat) lb.toInt.toNat) (addE (addE 0 la.toInt.toNat) lb.toInt.toNat) lc.toInt.toNat) (addE (addE (addE 0 la.toInt.toNat) lb.toInt.toNat) lc.toInt.toNat) ld.toInt.toNat) h12 n0 Z12 O12 F12 hsz12 hE12 hl12 (by omega)) e12 (g := (mkF m 167 #[.val (.long q0), .second, .val (.long q1), .second, .val (.int q2), .val (.int q3), .val (.int q4), .val (.int q5), .val (.int la), .val (.int lb), .val (.int lc), .val (.int ld), .val (.ref nb5), .val (.long (la.toInt64)), .second, .val (.long ((la.toInt64) + (lb.toInt64))), .second, .val (.long (((la.toInt64) + (lb.toInt64)) + (lc.toInt64))), .second, .val (.long ((((la.toInt64) + (lb.toInt64)) + (lc.toInt64)) + (ld.toInt64))), .second, .val (.long kk), .second, .val (.long (4 : Int64)), .second] [(.long kk), (.ref nb5)])) rfl (by rw [hml]; rfl) (argsL := [(.long kk)]) (rest := []) (lenOf pd_pJrJ rfl) rfl (W := 0) (by show 2 * 0 + _ ≤ _; exact Nat.le_of_eq rfl) (hb hby at_167) (by decide) (by decide) (by decide) (by decide)
        refine own_by (st19) ?_
        show OEnds p e below s _ _ _ (T19.setTop (mkF m 170 #[.val (.long q0), .second, .val (.long q1), .second, .val (.int q2), .val (.int q3), .val (.int q4), .val (.int q5), .val (.int la), .val (.int lb), .val (.int lc), .val (.int ld), .val (.ref nb5), .val (.long (la.toInt64)), .second, .val (.long ((la.toInt64) + (lb.toInt64))), .second, .val (.long (((la.toInt64) + (lb.toInt64)) + (lc.toInt64))), .second, .val (.long ((((la.toInt64) + (lb.toInt64)) + (lc.toInt64)) + (ld.toInt64))), .second, .val (.long kk), .second, .val (.long (4 : Int64)), .second] [(.long (scanF (addV (addV (addV (addV [] 0 la.toInt.toNat) (addE 0 la.toInt.toNat) lb.toInt.toNat) (addE (addE 0 la.toInt.toNat) lb.toInt.toNat) lc.toInt.toNat) (addE (addE (addE 0 la.toInt.toNat) lb.toInt.toNat) lc.toInt.toNat) ld.toInt.toNat) (begin_start q0) (0 : Int64) kk ae12))]))
        refine own_by (fun _ k => XS.lloadN X19.here hx rfl (hb hby at_170) rfl k) ?_
        show OEnds p e below s _ _ _ (T19.setTop (mkF m 171 #[.val (.long q0), .second, .val (.long q1), .second, .val (.int q2), .val (.int q3), .val (.int q4), .val (.int q5), .val (.int la), .val (.int lb), .val (.int lc), .val (.int ld), .val (.ref nb5), .val (.long (la.toInt64)), .second, .val (.long ((la.toInt64) + (lb.toInt64))), .second, .val (.long (((la.toInt64) + (lb.toInt64)) + (lc.toInt64))), .second, .val (.long ((((la.toInt64) + (lb.toInt64)) + (lc.toInt64)) + (ld.toInt64))), .second, .val (.long kk), .second, .val (.long (4 : Int64)), .second] [(.long q0), (.long (scanF (addV (addV (addV (addV [] 0 la.toInt.toNat) (addE 0 la.toInt.toNat) lb.toInt.toNat) (addE (addE 0 la.toInt.toNat) lb.toInt.toNat) lc.toInt.toNat) (addE (addE (addE 0 la.toInt.toNat) lb.toInt.toNat) lc.toInt.toNat) ld.toInt.toNat) (begin_start q0) (0 : Int64) kk ae12))]))
        refine own_by (fun _ k => XS.lload X19.here hx rfl (hb hby at_171) rfl k) ?_
        show OEnds p e below s _ _ _ (T19.setTop (mkF m 173 #[.val (.long q0), .second, .val (.long q1), .second, .val (.int q2), .val (.int q3), .val (.int q4), .val (.int q5), .val (.int la), .val (.int lb), .val (.int lc), .val (.int ld), .val (.ref nb5), .val (.long (la.toInt64)), .second, .val (.long ((la.toInt64) + (lb.toInt64))), .second, .val (.long (((la.toInt64) + (lb.toInt64)) + (lc.toInt64))), .second, .val (.long ((((la.toInt64) + (lb.toInt64)) + (lc.toInt64)) + (ld.toInt64))), .second, .val (.long kk), .second, .val (.long (4 : Int64)), .second] [(.long kk), (.long q0), (.long (scanF (addV (addV (addV (addV [] 0 la.toInt.toNat) (addE 0 la.toInt.toNat) lb.toInt.toNat) (addE (addE 0 la.toInt.toNat) lb.toInt.toNat) lc.toInt.toNat) (addE (addE (addE 0 la.toInt.toNat) lb.toInt.toNat) lc.toInt.toNat) ld.toInt.toNat) (begin_start q0) (0 : Int64) kk ae12))]))
        refine own_by (fun _ k => XS.ladd X19.here hx rfl (hb hby at_173) rfl k) ?_
        show OEnds p e below s _ _ _ (T19.setTop (mkF m 174 #[.val (.long q0), .second, .val (.long q1), .second, .val (.int q2), .val (.int q3), .val (.int q4), .val (.int q5), .val (.int la), .val (.int lb), .val (.int lc), .val (.int ld), .val (.ref nb5), .val (.long (la.toInt64)), .second, .val (.long ((la.toInt64) + (lb.toInt64))), .second, .val (.long (((la.toInt64) + (lb.toInt64)) + (lc.toInt64))), .second, .val (.long ((((la.toInt64) + (lb.toInt64)) + (lc.toInt64)) + (ld.toInt64))), .second, .val (.long kk), .second, .val (.long (4 : Int64)), .second] [(.long (q0 + kk)), (.long (scanF (addV (addV (addV (addV [] 0 la.toInt.toNat) (addE 0 la.toInt.toNat) lb.toInt.toNat) (addE (addE 0 la.toInt.toNat) lb.toInt.toNat) lc.toInt.toNat) (addE (addE (addE 0 la.toInt.toNat) lb.toInt.toNat) lc.toInt.toNat) ld.toInt.toNat) (begin_start q0) (0 : Int64) kk ae12))]))
        refine own_by (X19.ldc2Long hx hown (mvT hZ (hw _ (List.mem_of_getElem? (i := 43) rfl))) (g := (mkF m 174 #[.val (.long q0), .second, .val (.long q1), .second, .val (.int q2), .val (.int q3), .val (.int q4), .val (.int q5), .val (.int la), .val (.int lb), .val (.int lc), .val (.int ld), .val (.ref nb5), .val (.long (la.toInt64)), .second, .val (.long ((la.toInt64) + (lb.toInt64))), .second, .val (.long (((la.toInt64) + (lb.toInt64)) + (lc.toInt64))), .second, .val (.long ((((la.toInt64) + (lb.toInt64)) + (lc.toInt64)) + (ld.toInt64))), .second, .val (.long kk), .second, .val (.long (4 : Int64)), .second] [(.long (q0 + kk)), (.long (scanF (addV (addV (addV (addV [] 0 la.toInt.toNat) (addE 0 la.toInt.toNat) lb.toInt.toNat) (addE (addE 0 la.toInt.toNat) lb.toInt.toNat) lc.toInt.toNat) (addE (addE (addE 0 la.toInt.toNat) lb.toInt.toNat) lc.toInt.toNat) ld.toInt.toNat) (begin_start q0) (0 : Int64) kk ae12))])) rfl (hb hby at_174)) ?_
        show OEnds p e below s _ _ _ (T19.setTop (mkF m 177 #[.val (.long q0), .second, .val (.long q1), .second, .val (.int q2), .val (.int q3), .val (.int q4), .val (.int q5), .val (.int la), .val (.int lb), .val (.int lc), .val (.int ld), .val (.ref nb5), .val (.long (la.toInt64)), .second, .val (.long ((la.toInt64) + (lb.toInt64))), .second, .val (.long (((la.toInt64) + (lb.toInt64)) + (lc.toInt64))), .second, .val (.long ((((la.toInt64) + (lb.toInt64)) + (lc.toInt64)) + (ld.toInt64))), .second, .val (.long kk), .second, .val (.long (4 : Int64)), .second] [(.long (4 : Int64)), (.long (q0 + kk)), (.long (scanF (addV (addV (addV (addV [] 0 la.toInt.toNat) (addE 0 la.toInt.toNat) lb.toInt.toNat) (addE (addE 0 la.toInt.toNat) lb.toInt.toNat) lc.toInt.toNat) (addE (addE (addE 0 la.toInt.toNat) lb.toInt.toNat) lc.toInt.toNat) ld.toInt.toNat) (begin_start q0) (0 : Int64) kk ae12))]))
        refine own_by (fun _ k => XS.lload X19.here hx rfl (hb hby at_177) rfl k) ?_
        show OEnds p e below s _ _ _ (T19.setTop (mkF m 179 #[.val (.long q0), .second, .val (.long q1), .second, .val (.int q2), .val (.int q3), .val (.int q4), .val (.int q5), .val (.int la), .val (.int lb), .val (.int lc), .val (.int ld), .val (.ref nb5), .val (.long (la.toInt64)), .second, .val (.long ((la.toInt64) + (lb.toInt64))), .second, .val (.long (((la.toInt64) + (lb.toInt64)) + (lc.toInt64))), .second, .val (.long ((((la.toInt64) + (lb.toInt64)) + (lc.toInt64)) + (ld.toInt64))), .second, .val (.long kk), .second, .val (.long (4 : Int64)), .second] [(.long (4 : Int64)), (.long (4 : Int64)), (.long (q0 + kk)), (.long (scanF (addV (addV (addV (addV [] 0 la.toInt.toNat) (addE 0 la.toInt.toNat) lb.toInt.toNat) (addE (addE 0 la.toInt.toNat) lb.toInt.toNat) lc.toInt.toNat) (addE (addE (addE 0 la.toInt.toNat) lb.toInt.toNat) lc.toInt.toNat) ld.toInt.toNat) (begin_start q0) (0 : Int64) kk ae12))]))
        refine own_by (fun _ k => XS.lmul X19.here hx rfl (hb hby at_179) rfl k) ?_
        show OEnds p e below s _ _ _ (T19.setTop (mkF m 180 #[.val (.long q0), .second, .val (.long q1), .second, .val (.int q2), .val (.int q3), .val (.int q4), .val (.int q5), .val (.int la), .val (.int lb), .val (.int lc), .val (.int ld), .val (.ref nb5), .val (.long (la.toInt64)), .second, .val (.long ((la.toInt64) + (lb.toInt64))), .second, .val (.long (((la.toInt64) + (lb.toInt64)) + (lc.toInt64))), .second, .val (.long ((((la.toInt64) + (lb.toInt64)) + (lc.toInt64)) + (ld.toInt64))), .second, .val (.long kk), .second, .val (.long (4 : Int64)), .second] [(.long (16 : Int64)), (.long (q0 + kk)), (.long (scanF (addV (addV (addV (addV [] 0 la.toInt.toNat) (addE 0 la.toInt.toNat) lb.toInt.toNat) (addE (addE 0 la.toInt.toNat) lb.toInt.toNat) lc.toInt.toNat) (addE (addE (addE 0 la.toInt.toNat) lb.toInt.toNat) lc.toInt.toNat) ld.toInt.toNat) (begin_start q0) (0 : Int64) kk ae12))]))
        refine own_by (fun _ k => XS.ladd X19.here hx rfl (hb hby at_180) rfl k) ?_
        show OEnds p e below s _ _ _ (T19.setTop (mkF m 181 #[.val (.long q0), .second, .val (.long q1), .second, .val (.int q2), .val (.int q3), .val (.int q4), .val (.int q5), .val (.int la), .val (.int lb), .val (.int lc), .val (.int ld), .val (.ref nb5), .val (.long (la.toInt64)), .second, .val (.long ((la.toInt64) + (lb.toInt64))), .second, .val (.long (((la.toInt64) + (lb.toInt64)) + (lc.toInt64))), .second, .val (.long ((((la.toInt64) + (lb.toInt64)) + (lc.toInt64)) + (ld.toInt64))), .second, .val (.long kk), .second, .val (.long (4 : Int64)), .second] [(.long ((q0 + kk) + (16 : Int64))), (.long (scanF (addV (addV (addV (addV [] 0 la.toInt.toNat) (addE 0 la.toInt.toNat) lb.toInt.toNat) (addE (addE 0 la.toInt.toNat) lb.toInt.toNat) lc.toInt.toNat) (addE (addE (addE 0 la.toInt.toNat) lb.toInt.toNat) lc.toInt.toNat) ld.toInt.toNat) (begin_start q0) (0 : Int64) kk ae12))]))
        refine own_by (fun _ k => XS.lcmp X19.here hx rfl (hb hby at_181) rfl k) ?_
        show OEnds p e below s _ _ _ (T19.setTop (mkF m 182 #[.val (.long q0), .second, .val (.long q1), .second, .val (.int q2), .val (.int q3), .val (.int q4), .val (.int q5), .val (.int la), .val (.int lb), .val (.int lc), .val (.int ld), .val (.ref nb5), .val (.long (la.toInt64)), .second, .val (.long ((la.toInt64) + (lb.toInt64))), .second, .val (.long (((la.toInt64) + (lb.toInt64)) + (lc.toInt64))), .second, .val (.long ((((la.toInt64) + (lb.toInt64)) + (lc.toInt64)) + (ld.toInt64))), .second, .val (.long kk), .second, .val (.long (4 : Int64)), .second] [(.int (lcmpW (scanF (addV (addV (addV (addV [] 0 la.toInt.toNat) (addE 0 la.toInt.toNat) lb.toInt.toNat) (addE (addE 0 la.toInt.toNat) lb.toInt.toNat) lc.toInt.toNat) (addE (addE (addE 0 la.toInt.toNat) lb.toInt.toNat) lc.toInt.toNat) ld.toInt.toNat) (begin_start q0) (0 : Int64) kk ae12) ((q0 + kk) + (16 : Int64))))]))
        refine own_by (fun _ k => XS.ifNo X19.here hx rfl (hb hby at_182) rfl ((if0 _ _).trans (teq ((lw_eq _ _).mpr (fin_law bla blb blc bld hkk.1 hkk.2 hem12 (by rw [if_neg (ge_nat hkk.1 hs1 hc117_13), if_neg (ge_nat hkk.1 hs2 hc131_15), if_neg (ge_nat hkk.1 hs3 hc147_17)]) (by decide)))).2) k) ?_
        show OEnds p e below s _ _ _ (T19.setTop (mkF m 185 #[.val (.long q0), .second, .val (.long q1), .second, .val (.int q2), .val (.int q3), .val (.int q4), .val (.int q5), .val (.int la), .val (.int lb), .val (.int lc), .val (.int ld), .val (.ref nb5), .val (.long (la.toInt64)), .second, .val (.long ((la.toInt64) + (lb.toInt64))), .second, .val (.long (((la.toInt64) + (lb.toInt64)) + (lc.toInt64))), .second, .val (.long ((((la.toInt64) + (lb.toInt64)) + (lc.toInt64)) + (ld.toInt64))), .second, .val (.long kk), .second, .val (.long (4 : Int64)), .second] []))
        refine own_by (fun _ k => XS.iconst X19.here hx rfl (hb hby at_185) k) ?_
        show OEnds p e below s _ _ _ (T19.setTop (mkF m 186 #[.val (.long q0), .second, .val (.long q1), .second, .val (.int q2), .val (.int q3), .val (.int q4), .val (.int q5), .val (.int la), .val (.int lb), .val (.int lc), .val (.int ld), .val (.ref nb5), .val (.long (la.toInt64)), .second, .val (.long ((la.toInt64) + (lb.toInt64))), .second, .val (.long (((la.toInt64) + (lb.toInt64)) + (lc.toInt64))), .second, .val (.long ((((la.toInt64) + (lb.toInt64)) + (lc.toInt64)) + (ld.toInt64))), .second, .val (.long kk), .second, .val (.long (4 : Int64)), .second] [(.int (1 : Int32))]))
        refine own_by (fun _ k => XS.goto X19.here hx rfl (pc0 := 186) (pc' := 190) rfl (hb hby at_186) (by decide) (by decide) k) ?_
        show OEnds p e below s _ _ _ (T19.setTop (mkF m 190 #[.val (.long q0), .second, .val (.long q1), .second, .val (.int q2), .val (.int q3), .val (.int q4), .val (.int q5), .val (.int la), .val (.int lb), .val (.int lc), .val (.int ld), .val (.ref nb5), .val (.long (la.toInt64)), .second, .val (.long ((la.toInt64) + (lb.toInt64))), .second, .val (.long (((la.toInt64) + (lb.toInt64)) + (lc.toInt64))), .second, .val (.long ((((la.toInt64) + (lb.toInt64)) + (lc.toInt64)) + (ld.toInt64))), .second, .val (.long kk), .second, .val (.long (4 : Int64)), .second] [(.int (1 : Int32))]))
        exact own_retN X19 hx hlk .boolean (by simp) Bd.returns (hb hby at_190) ⟨rfl, N12⟩ (by decide) (by decide)
set_option maxRecDepth 65536 in
set_option maxHeartbeats 40000000 in
theorem comes_1 {Post : Tables → Env → Array Value → State → Outcome → State → Prop} (hpost : ∀ tb e args s v u, (limb_1_1.after args s (.returned v) u = true ∧ limb_1_2.after args s (.returned v) u = true ∧ True) → FrameEnd s (.returned v) u (Jvm.fieldLocs frame_1_writes args s ++ Jvm.arrayLocs frame_1_arrays args s ++ Jvm.staticLocs frame_1_statics s) 16 192 → Post tb e args s (.returned v) u) :
    ArmFor flags0 classFile x code maxLocals ret World_1 tables_1 room_1 Calls_1 rest_1 Pre_1 Post := by
  intro l hfl _ _ p e ha hc hk s m args below hf hA hF happ hP
  obtain ⟨hcalls, hrest, hpre⟩ := hP
  obtain ⟨-, -, -, hnamed, -, -, -, hat⟩ := (Spec.applies_iff hf).mp happ
  obtain ⟨hg, hn⟩ := and_e (Cond.before_iff.mp (show (Jvm.Cond.and given_1 narrow_1).before args s = true from hpre))
  obtain ⟨hct, hg0⟩ := and_e hg
  obtain ⟨ga0, hg1⟩ := and_e hg0
  obtain ⟨ga1, hg2⟩ := and_e hg1
  obtain ⟨ga2, hg3⟩ := and_e hg2
  obtain ⟨ga3, hg4⟩ := and_e hg3
  obtain ⟨ga4, hg5⟩ := and_e hg4
  have ga5 := hg5
  obtain ⟨w0, w1, w2, w3, w4, w5, rfl⟩ : ∃ w0 w1 w2 w3 w4 w5 : Value, args = #[w0, w1, w2, w3, w4, w5] := by
    have hs : args.size = 6 := by simpa [Cond.value, given_1] using hct
    obtain ⟨L⟩ := args
    match L, hs with
    | [w0, w1, w2, w3, w4, w5], _ => exact ⟨w0, w1, w2, w3, w4, w5, rfl⟩
  have hw := fun d (hd : d ∈ tables_1) => atoms_spec (ws := Jvm.Cond.code x code maxLocals ret :: tables_1) hat d (List.mem_cons_of_mem _ hd)
  obtain ⟨i0, ei0⟩ := isL_v ga0
  obtain rfl : w0 = (.long i0) := Option.some.inj ei0
  obtain ⟨i1, ei1⟩ := isL_v ga1
  obtain rfl : w1 = (.long i1) := Option.some.inj ei1
  obtain ⟨i2, ei2⟩ := is_v ga2
  obtain rfl : w2 = (.int i2) := Option.some.inj ei2
  obtain ⟨i3, ei3⟩ := is_v ga3
  obtain rfl : w3 = (.int i3) := Option.some.inj ei3
  obtain ⟨i4, ei4⟩ := is_v ga4
  obtain rfl : w4 = (.int i4) := Option.some.inj ei4
  obtain ⟨i5, ei5⟩ := is_v ga5
  obtain rfl : w5 = (.int i5) := Option.some.inj ei5
  obtain ⟨n, o, h1, h2, h3, _, L, rfl, ⟨rfl, N⟩, hq⟩ := rm_law l s _ hw tables_1 i0 i1 i2 i3 i4 i5 s.heap s.heap.size (Nat.le_refl _) p e ha hc hk s m _ below hf ((Spec.applies_iff_loose hf).mp happ).1 ⟨rfl, State.Warmed39.refl s, rfl⟩ trivial
  refine ⟨n, _, h1, h2, h3, hpost _ _ _ _ _ _ ⟨Cond.after_iff.mpr rfl, Cond.after_iff.mpr (eq_i res_at (Term.int_eval (1)) rfl), trivial⟩ ⟨hq.1, hq.2.1, (hq.2.2.sift fun y hy => Or.inr (N y hy)).mono (by decide) (by decide)⟩⟩
theorem main_1_1 : Claimed_1_1 := comes_1 fun _ _ _ _ _ _ h hF => ⟨h.1, hF⟩
theorem main_1_2 : Claimed_1_2 := comes_1 fun _ _ _ _ _ _ h hF => ⟨h.2.1, hF⟩
end Jvm.Pilot.@@N@@
namespace Jvm.Pilot.@@N@@
open Jvm Jvm.ClassFile Sem Op Lib Jvm.Free Jvm.Stand Jvm.Pilot.@@N@@.Jvm.D
/-! MADE BY PROGRAM (witnessworld.py) out of the Statement's table words and the real class files: 12 classes; the members and pool entries that the words name. The judged class is class 1, her method 2. -/
namespace start1
open Jvm.ClassFile
def u (s : String) : CpInfo := .utf8 (stringToUtf16 s)
/-- a pool by its gaps: so many unusable entries, then the entry; so many at the end -/
def gap : Nat → List CpInfo → List CpInfo
  | 0, r => r
  | n + 1, r => .unusable :: gap n r
def poolList (es : List (Nat × CpInfo)) (last : Nat) : List CpInfo := es.foldr (fun e r => gap e.1 (e.2 :: r)) (gap last [])
def pool (es : List (Nat × CpInfo)) (last : Nat) : Array CpInfo := ⟨poolList es last⟩
def fileOf (pool : Array CpInfo) (this : Nat) (attrs : Array Attribute := #[]) (ms : Array MethodInfo := #[]) (fl : Nat := 33) (sup : Nat := 0) (ifs : Array Nat := #[]) (fds : Array FieldInfo := #[]) : ClassFile where
  minorVersion := 0
  majorVersion := 65
  constantPool := pool
  accessFlags := fl
  thisClass := this
  superClass := sup
  interfaces := ifs
  fields := fds
  methods := ms
  attributes := attrs
def plain (name : String) (sup : Option ClassId) : Class where
  name := name
  kind := .ordinary
  loader := none
  accessFlags := 33
  super := sup
  interfaces := #[]
  cf := none
  fields := #[]
  methods := #[]
  instanceTypes := #[]
  staticTypes := #[]
  resolved := #[]
  callSites := []
  init := .initialized
  statics := none
  mirror := none

def pool0 : Array CpInfo := pool [(5, u "<init>"), (0, u "()V"), (1, .class_ 10), (1, u "java/lang/Object")] 113

def k0c0 : Code := { maxStack := 0, maxLocals := 1, code := object_method_1_code, exceptionTable := #[], attributes := #[] }
def k0m0 : Method := { name := "<init>", desc := "()V", sig := { parameters := [], returnType := none }, accessFlags := 1, code := some k0c0 }
/-- java/lang/Object -/
def k0 : Class := { plain "java/lang/Object" none with
  accessFlags := 33
  interfaces := #[]
  cf := some (fileOf pool0 8 #[] #[{ accessFlags := 1, nameIndex := 5, descriptorIndex := 6, attributes := #[] }] 33 0 #[] #[])
  fields := #[]
  methods := #[k0m0]
  instanceTypes := #[]
  staticTypes := #[]
  resolved := Array.replicate 124 none
  statics := none }

def pool1 : Array CpInfo := pool [(2, .class_ 4), (0, .nameAndType 5 6), (0, u "java/lang/Object"), (0, u "<init>"), (0, u "()V"), (0, .methodref 8 9), (0, .class_ 10), (0, .nameAndType 11 12), (0, u "com/example/fourfold/fourfold/xdr/FragmentMapInStreamPinLaw"), (0, u "len"), (0, u "(I)I"), (0, .class_ 14), (0, u "com/example/fourfold/fourfold/xdr/FragmentMap"), (0, .methodref 13 3), (0, .methodref 13 17), (0, .nameAndType 18 19), (0, u "begin"), (0, u "(J)V"), (0, .methodref 13 21), (0, .nameAndType 22 23), (0, u "add"), (0, u "(I)V"), (2, .long 9223372036854775807), (1, .long 2), (1, .long 3), (1, .long 4), (1, .methodref 13 35), (0, .nameAndType 36 37), (0, u "inStream"), (0, u "(J)J"), (3, u "law"), (0, u "(JJIIII)Z")] 2

def k1m0 : Method := { name := "<init>", desc := "()V", sig := { parameters := [], returnType := none }, accessFlags := 1, code := none }
def k1c1 : Code := { maxStack := 2, maxLocals := 1, code := method_2_code, exceptionTable := #[], attributes := #[] }
def k1m1 : Method := { name := "len", desc := "(I)I", sig := { parameters := [.int], returnType := some .int }, accessFlags := 10, code := some k1c1 }
def k1c2 : Code := { maxStack := 8, maxLocals := 25, code := code, exceptionTable := #[], attributes := #[] }
def k1m2 : Method := { name := "law", desc := "(JJIIII)Z", sig := { parameters := [.long, .long, .int, .int, .int, .int], returnType := some .boolean }, accessFlags := 9, code := some k1c2 }
/-- com/example/fourfold/fourfold/xdr/FragmentMapInStreamPinLaw -/
def k1 : Class := { plain "com/example/fourfold/fourfold/xdr/FragmentMapInStreamPinLaw" (some 0) with
  accessFlags := 49
  interfaces := #[]
  cf := some (fileOf pool1 8 #[] #[{ accessFlags := 1, nameIndex := 5, descriptorIndex := 6, attributes := #[] }, { accessFlags := 10, nameIndex := 11, descriptorIndex := 12, attributes := #[] }, { accessFlags := 9, nameIndex := 41, descriptorIndex := 42, attributes := #[] }] 49 2 #[] #[])
  fields := #[]
  methods := #[k1m0, k1m1, k1m2]
  instanceTypes := #[]
  staticTypes := #[]
  resolved := Array.replicate 45 none
  statics := none }

def pool2 : Array CpInfo := pool [(1, .methodref 2 3), (0, .class_ 4), (0, .nameAndType 5 6), (0, u "java/lang/Object"), (0, u "<init>"), (0, u "()V"), (0, .fieldref 8 9), (0, .class_ 10), (0, .nameAndType 11 12), (0, u "com/example/fourfold/fourfold/xdr/FragmentMap"), (0, u "entries"), (0, u "[B"), (0, .fieldref 8 14), (0, .nameAndType 15 16), (0, u "start"), (0, u "J"), (0, .fieldref 8 18), (0, .nameAndType 19 20), (0, u "size"), (0, u "I"), (0, .fieldref 8 22), (0, .nameAndType 23 16), (0, u "empty"), (0, .long 2), (1, .methodref 8 27), (0, .nameAndType 28 29), (0, u "put"), (0, u "(J)V"), (2, .long 4), (1, .long 128), (1, .methodref 8 37), (0, .nameAndType 38 39), (0, u "append"), (0, u "(B)V"), (0, .methodref 41 42), (0, .class_ 43), (0, .nameAndType 44 45), (0, u "java/util/Arrays"), (0, u "copyOf"), (0, u "([BI)[B"), (2, u "begin"), (0, u "add"), (0, u "(I)V"), (1, u "inStream"), (0, u "(J)J")] 2

def k2c0 : Code := { maxStack := 2, maxLocals := 1, code := prog_88_method_1_code, exceptionTable := #[], attributes := #[] }
def k2m0 : Method := { name := "<init>", desc := "()V", sig := { parameters := [], returnType := none }, accessFlags := 0, code := some k2c0 }
def k2c1 : Code := { maxStack := 3, maxLocals := 3, code := prog_88_method_2_code, exceptionTable := #[], attributes := #[] }
def k2m1 : Method := { name := "begin", desc := "(J)V", sig := { parameters := [.long], returnType := none }, accessFlags := 0, code := some k2c1 }
def k2c2 : Code := { maxStack := 5, maxLocals := 2, code := prog_88_method_3_code, exceptionTable := #[], attributes := #[] }
def k2m2 : Method := { name := "add", desc := "(I)V", sig := { parameters := [.int], returnType := none }, accessFlags := 0, code := some k2c2 }
def k2c3 : Code := { maxStack := 6, maxLocals := 14, code := prog_88_method_4_code, exceptionTable := #[], attributes := #[] }
def k2m3 : Method := { name := "inStream", desc := "(J)J", sig := { parameters := [.long], returnType := some .long }, accessFlags := 0, code := some k2c3 }
def k2c4 : Code := { maxStack := 5, maxLocals := 5, code := prog_88_method_5_code, exceptionTable := #[], attributes := #[] }
def k2m4 : Method := { name := "put", desc := "(J)V", sig := { parameters := [.long], returnType := none }, accessFlags := 2, code := some k2c4 }
def k2c5 : Code := { maxStack := 5, maxLocals := 2, code := prog_88_method_6_code, exceptionTable := #[], attributes := #[] }
def k2m5 : Method := { name := "append", desc := "(B)V", sig := { parameters := [.byte], returnType := none }, accessFlags := 2, code := some k2c5 }
/-- com/example/fourfold/fourfold/xdr/FragmentMap -/
def k2 : Class := { plain "com/example/fourfold/fourfold/xdr/FragmentMap" (some 0) with
  accessFlags := 48
  interfaces := #[]
  cf := some (fileOf pool2 8 #[] #[{ accessFlags := 0, nameIndex := 5, descriptorIndex := 6, attributes := #[] }, { accessFlags := 0, nameIndex := 48, descriptorIndex := 29, attributes := #[] }, { accessFlags := 0, nameIndex := 49, descriptorIndex := 50, attributes := #[] }, { accessFlags := 0, nameIndex := 52, descriptorIndex := 53, attributes := #[] }, { accessFlags := 2, nameIndex := 28, descriptorIndex := 29, attributes := #[] }, { accessFlags := 2, nameIndex := 38, descriptorIndex := 39, attributes := #[] }] 48 2 #[] #[{ accessFlags := 2, nameIndex := 11, descriptorIndex := 12, attributes := #[] }, { accessFlags := 2, nameIndex := 19, descriptorIndex := 20, attributes := #[] }, { accessFlags := 2, nameIndex := 15, descriptorIndex := 16, attributes := #[] }, { accessFlags := 2, nameIndex := 23, descriptorIndex := 16, attributes := #[] }])
  fields := #[{ name := "entries", type := (.array .byte), accessFlags := 2, slot := 0, constantValue := 0 }, { name := "size", type := .int, accessFlags := 2, slot := 1, constantValue := 0 }, { name := "start", type := .long, accessFlags := 2, slot := 2, constantValue := 0 }, { name := "empty", type := .long, accessFlags := 2, slot := 3, constantValue := 0 }]
  methods := #[k2m0, k2m1, k2m2, k2m3, k2m4, k2m5]
  instanceTypes := #[(.array .byte), .int, .long, .long]
  staticTypes := #[]
  resolved := Array.replicate 56 none
  statics := none }

def pool3 : Array CpInfo := pool [(2, .class_ 4), (1, u "java/lang/Object"), (0, u "<init>"), (0, u "()V"), (7, .class_ 16), (1, u "java/util/Arrays"), (57, .class_ 76), (1, u "java/util/Arrays$NaturalOrder"), (36, .class_ 115), (1, u "java/util/Arrays$LegacyMergeSort"), (1, u "Z"), (32, .methodref 151 152), (0, .class_ 153), (0, .nameAndType 154 155), (0, u "java/lang/System"), (0, u "arraycopy"), (0, u "(Ljava/lang/Object;ILjava/lang/Object;II)V"), (146, u "copyOf"), (1, .methodref 305 306), (0, .class_ 307), (0, .nameAndType 308 309), (0, u "java/lang/Math"), (0, u "min"), (0, u "(II)I"), (65, .class_ 376), (0, u "java/util/Arrays$ArrayList"), (68, u "$assertionsDisabled"), (269, u "MIN_ARRAY_SORT_GRAN"), (0, u "I"), (2, u "INSERTIONSORT_THRESHOLD"), (149, u "([BI)[B"), (105, .class_ 976), (0, u "java/util/Arrays$ArrayItr")] 52

def k3m0 : Method := { name := "<init>", desc := "()V", sig := { parameters := [], returnType := none }, accessFlags := 2, code := none }
def k3c1 : Code := { maxStack := 6, maxLocals := 3, code := jdk_65_method_121_code, exceptionTable := #[], attributes := #[] }
def k3m1 : Method := { name := "copyOf", desc := "([BI)[B", sig := { parameters := [(.array .byte), .int], returnType := some (.array .byte) }, accessFlags := 9, code := some k3c1 }
/-- java/util/Arrays -/
def k3 : Class := { plain "java/util/Arrays" (some 0) with
  accessFlags := 49
  interfaces := #[]
  cf := some (fileOf pool3 14 #[.nestMembers #[975, 375, 113, 74]] #[{ accessFlags := 2, nameIndex := 5, descriptorIndex := 6, attributes := #[] }, { accessFlags := 9, nameIndex := 302, descriptorIndex := 869, attributes := #[] }] 49 2 #[] #[{ accessFlags := 26, nameIndex := 715, descriptorIndex := 716, attributes := #[] }, { accessFlags := 26, nameIndex := 719, descriptorIndex := 716, attributes := #[] }, { accessFlags := 4120, nameIndex := 445, descriptorIndex := 117, attributes := #[] }])
  fields := #[{ name := "MIN_ARRAY_SORT_GRAN", type := .int, accessFlags := 26, slot := 0, constantValue := 0 }, { name := "INSERTIONSORT_THRESHOLD", type := .int, accessFlags := 26, slot := 1, constantValue := 0 }, { name := "$assertionsDisabled", type := .boolean, accessFlags := 4120, slot := 2, constantValue := 0 }]
  methods := #[k3m0, k3m1]
  instanceTypes := #[]
  staticTypes := #[.int, .int, .boolean]
  resolved := Array.replicate 1029 none
  statics := none }

def pool4 : Array CpInfo := pool [(1, .class_ 2), (0, u "java/lang/Math"), (1, .class_ 6), (1, u "java/lang/Object"), (0, u "<init>"), (0, u "()V"), (89, .class_ 100), (1, u "java/lang/Math$RandomNumberGeneratorHolder"), (71, u "negativeZeroFloatBits"), (0, u "J"), (2, u "negativeZeroDoubleBits"), (24, u "min"), (43, u "$assertionsDisabled"), (0, u "Z"), (88, u "(II)I"), (2, u "twoToTheDoubleScaleDown"), (0, u "D"), (4, u "twoToTheDoubleScaleUp"), (9, u "E"), (3, u "PI"), (2, u "TAU"), (2, u "DEGREES_TO_RADIANS"), (0, u "RADIANS_TO_DEGREES")] 94

def k4m0 : Method := { name := "<init>", desc := "()V", sig := { parameters := [], returnType := none }, accessFlags := 2, code := none }
def k4c1 : Code := { maxStack := 2, maxLocals := 2, code := jdk_29_method_69_code, exceptionTable := #[], attributes := #[] }
def k4m1 : Method := { name := "min", desc := "(II)I", sig := { parameters := [.int, .int], returnType := some .int }, accessFlags := 9, code := some k4c1 }
/-- java/lang/Math -/
def k4 : Class := { plain "java/lang/Math" (some 0) with
  accessFlags := 49
  interfaces := #[]
  cf := some (fileOf pool4 1 #[.nestMembers #[98]] #[{ accessFlags := 2, nameIndex := 7, descriptorIndex := 8, attributes := #[] }, { accessFlags := 9, nameIndex := 201, descriptorIndex := 335, attributes := #[] }] 49 4 #[] #[{ accessFlags := 25, nameIndex := 354, descriptorIndex := 339, attributes := #[] }, { accessFlags := 25, nameIndex := 358, descriptorIndex := 339, attributes := #[] }, { accessFlags := 25, nameIndex := 361, descriptorIndex := 339, attributes := #[] }, { accessFlags := 26, nameIndex := 364, descriptorIndex := 339, attributes := #[] }, { accessFlags := 26, nameIndex := 365, descriptorIndex := 339, attributes := #[] }, { accessFlags := 26, nameIndex := 172, descriptorIndex := 173, attributes := #[] }, { accessFlags := 26, nameIndex := 176, descriptorIndex := 173, attributes := #[] }, { accessFlags := 8, nameIndex := 344, descriptorIndex := 339, attributes := #[] }, { accessFlags := 8, nameIndex := 338, descriptorIndex := 339, attributes := #[] }, { accessFlags := 4120, nameIndex := 245, descriptorIndex := 246, attributes := #[] }])
  fields := #[{ name := "E", type := .double, accessFlags := 25, slot := 0, constantValue := 0 }, { name := "PI", type := .double, accessFlags := 25, slot := 1, constantValue := 0 }, { name := "TAU", type := .double, accessFlags := 25, slot := 2, constantValue := 0 }, { name := "DEGREES_TO_RADIANS", type := .double, accessFlags := 26, slot := 3, constantValue := 0 }, { name := "RADIANS_TO_DEGREES", type := .double, accessFlags := 26, slot := 4, constantValue := 0 }, { name := "negativeZeroFloatBits", type := .long, accessFlags := 26, slot := 5, constantValue := 0 }, { name := "negativeZeroDoubleBits", type := .long, accessFlags := 26, slot := 6, constantValue := 0 }, { name := "twoToTheDoubleScaleUp", type := .double, accessFlags := 8, slot := 7, constantValue := 0 }, { name := "twoToTheDoubleScaleDown", type := .double, accessFlags := 8, slot := 8, constantValue := 0 }, { name := "$assertionsDisabled", type := .boolean, accessFlags := 4120, slot := 9, constantValue := 0 }]
  methods := #[k4m0, k4m1]
  instanceTypes := #[]
  staticTypes := #[.double, .double, .double, .double, .double, .long, .long, .double, .double, .boolean]
  resolved := Array.replicate 460 none
  statics := none }

def pool5 : Array CpInfo := pool [(2, .class_ 4), (1, u "java/lang/Object"), (0, u "<init>"), (0, u "()V"), (1, .class_ 10), (1, u "java/lang/System"), (0, u "allowSecurityManager"), (0, u "I"), (16, u "cons"), (0, u "Ljava/io/Console;"), (77, .class_ 110), (1, u "java/lang/System$CallersHolder"), (43, u "initialErrStream"), (0, u "Ljava/io/PrintStream;"), (19, u "security"), (0, u "Ljava/lang/SecurityManager;"), (31, .class_ 209), (0, u "java/lang/System$1"), (7, u "props"), (0, u "Ljava/util/Properties;"), (2, u "lineSeparator"), (0, u "Ljava/lang/String;"), (96, .class_ 321), (1, u "java/lang/System$LoggerFinder"), (5, .class_ 328), (0, u "java/lang/System$Logger"), (67, u "err"), (2, u "out"), (91, u "notSupportedJnuEncoding"), (15, u "in"), (17, u "initialIn"), (0, u "Ljava/io/InputStream;"), (35, u "bootLayer"), (0, u "Ljava/lang/ModuleLayer;"), (99, .class_ 664), (0, u "java/lang/System$2"), (9, u "NEVER"), (2, u "MAYBE"), (49, u "arraycopy"), (0, u "(Ljava/lang/Object;ILjava/lang/Object;II)V"), (72, .class_ 802), (0, u "java/lang/System$Logger$Level")] 31

def k5m0 : Method := { name := "<init>", desc := "()V", sig := { parameters := [], returnType := none }, accessFlags := 2, code := none }
def k5m1 : Method := { name := "arraycopy", desc := "(Ljava/lang/Object;ILjava/lang/Object;II)V", sig := { parameters := [(.object "java/lang/Object"), .int, (.object "java/lang/Object"), .int, .int], returnType := none }, accessFlags := 265, code := none }
/-- java/lang/System -/
def k5 : Class := { plain "java/lang/System" (some 0) with
  accessFlags := 49
  interfaces := #[]
  cf := some (fileOf pool5 8 #[.nestMembers #[319, 327, 801, 108, 663, 208]] #[{ accessFlags := 2, nameIndex := 5, descriptorIndex := 6, attributes := #[] }, { accessFlags := 265, nameIndex := 727, descriptorIndex := 728, attributes := #[] }] 49 2 #[] #[{ accessFlags := 25, nameIndex := 507, descriptorIndex := 526, attributes := #[] }, { accessFlags := 25, nameIndex := 399, descriptorIndex := 155, attributes := #[] }, { accessFlags := 25, nameIndex := 396, descriptorIndex := 155, attributes := #[] }, { accessFlags := 10, nameIndex := 525, descriptorIndex := 526, attributes := #[] }, { accessFlags := 26, nameIndex := 674, descriptorIndex := 12, attributes := #[] }, { accessFlags := 26, nameIndex := 677, descriptorIndex := 12, attributes := #[] }, { accessFlags := 10, nameIndex := 11, descriptorIndex := 12, attributes := #[] }, { accessFlags := 74, nameIndex := 175, descriptorIndex := 176, attributes := #[] }, { accessFlags := 10, nameIndex := 491, descriptorIndex := 222, attributes := #[] }, { accessFlags := 74, nameIndex := 29, descriptorIndex := 30, attributes := #[] }, { accessFlags := 74, nameIndex := 154, descriptorIndex := 155, attributes := #[] }, { accessFlags := 10, nameIndex := 217, descriptorIndex := 218, attributes := #[] }, { accessFlags := 10, nameIndex := 221, descriptorIndex := 222, attributes := #[] }, { accessFlags := 8, nameIndex := 562, descriptorIndex := 563, attributes := #[] }])
  fields := #[{ name := "in", type := (.object "java/io/InputStream"), accessFlags := 25, slot := 0, constantValue := 0 }, { name := "out", type := (.object "java/io/PrintStream"), accessFlags := 25, slot := 1, constantValue := 0 }, { name := "err", type := (.object "java/io/PrintStream"), accessFlags := 25, slot := 2, constantValue := 0 }, { name := "initialIn", type := (.object "java/io/InputStream"), accessFlags := 10, slot := 3, constantValue := 0 }, { name := "NEVER", type := .int, accessFlags := 26, slot := 4, constantValue := 0 }, { name := "MAYBE", type := .int, accessFlags := 26, slot := 5, constantValue := 0 }, { name := "allowSecurityManager", type := .int, accessFlags := 10, slot := 6, constantValue := 0 }, { name := "security", type := (.object "java/lang/SecurityManager"), accessFlags := 74, slot := 7, constantValue := 0 }, { name := "notSupportedJnuEncoding", type := (.object "java/lang/String"), accessFlags := 10, slot := 8, constantValue := 0 }, { name := "cons", type := (.object "java/io/Console"), accessFlags := 74, slot := 9, constantValue := 0 }, { name := "initialErrStream", type := (.object "java/io/PrintStream"), accessFlags := 74, slot := 10, constantValue := 0 }, { name := "props", type := (.object "java/util/Properties"), accessFlags := 10, slot := 11, constantValue := 0 }, { name := "lineSeparator", type := (.object "java/lang/String"), accessFlags := 10, slot := 12, constantValue := 0 }, { name := "bootLayer", type := (.object "java/lang/ModuleLayer"), accessFlags := 8, slot := 13, constantValue := 0 }]
  methods := #[k5m0, k5m1]
  instanceTypes := #[]
  staticTypes := #[(.object "java/io/InputStream"), (.object "java/io/PrintStream"), (.object "java/io/PrintStream"), (.object "java/io/InputStream"), .int, .int, .int, (.object "java/lang/SecurityManager"), (.object "java/lang/String"), (.object "java/io/Console"), (.object "java/io/PrintStream"), (.object "java/util/Properties"), (.object "java/lang/String"), (.object "java/lang/ModuleLayer")]
  resolved := Array.replicate 834 none
  statics := none }

def pool6 : Array CpInfo := pool [(1, u "java/lang/Cloneable"), (0, .class_ 1), (0, u "java/lang/Object"), (0, .class_ 3)] 3

/-- java/lang/Cloneable -/
def k6 : Class := { plain "java/lang/Cloneable" (some 0) with
  accessFlags := 1537
  interfaces := #[]
  cf := some (fileOf pool6 2 #[] #[] 1537 4 #[] #[])
  fields := #[]
  methods := #[]
  instanceTypes := #[]
  staticTypes := #[]
  resolved := Array.replicate 8 none
  statics := none }

def pool7 : Array CpInfo := pool [(1, u "java/io/Serializable"), (0, .class_ 1), (0, u "java/lang/Object"), (0, .class_ 3)] 3

/-- java/io/Serializable -/
def k7 : Class := { plain "java/io/Serializable" (some 0) with
  accessFlags := 1537
  interfaces := #[]
  cf := some (fileOf pool7 2 #[] #[] 1537 4 #[] #[])
  fields := #[]
  methods := #[]
  instanceTypes := #[]
  staticTypes := #[]
  resolved := Array.replicate 8 none
  statics := none }

/-- the primitive byte -/
def k8 : Class := { plain "byte" none with kind := .primitive 'B', accessFlags := 0x411 }
/-- [B -/
def k9 : Class := { plain "[B" (some 0) with kind := .array 8 .byte, interfaces := #[6, 7], accessFlags := 1041 }

/-- the primitive int -/
def k10 : Class := { plain "int" none with kind := .primitive 'I', accessFlags := 0x411 }
/-- [I -/
def k11 : Class := { plain "[I" (some 0) with kind := .array 10 .int, interfaces := #[6, 7], accessFlags := 1041 }

def heap : Heap := #[]
def classes : Array Class := #[k0, k1, k2, k3, k4, k5, k6, k7, k8, k9, k10, k11]
def interned : List (Array UInt16 × Addr) := []
def slotsUsed : Nat := 0
def theMethod : MethodId := ⟨1, 2⟩
def args0 : Array Value := #[.long 5, .long 7, .int 3, .int 0, .int 5, .int 9]
def aboutOver (below : List Frame) : State where
  vm := { classes := classes, interned := interned.toArray }
  heap := heap
  slotsUsed := slotsUsed
  threads := #[{ frames := .invoking theMethod args0 :: below }]
def below0 : List Frame := [.native { method := ⟨0, 0⟩, args := #[] }]
def about1 : State := aboutOver below0
def p0 : Program := .bare "" "" ""
def e0 : Env := launch0.env 0 0 0
theorem w_frames : about1.frames = Frame.invoking theMethod args0 :: below0 := rfl
set_option maxRecDepth 65536 in
theorem w_args : argsFit about1.vm theMethod args0 = true := by decide +kernel
set_option maxRecDepth 65536 in
theorem w_heap : heapFits about1 = true := by decide +kernel
set_option maxRecDepth 65536 in
theorem w_runnable : about1.curStatus? = some .runnable := by decide +kernel
set_option maxRecDepth 65536 in
theorem w_alone : about1.alone = true := by decide +kernel
set_option maxRecDepth 65536 in
theorem w_named : about1.methodNamed? x = some theMethod := by decide +kernel
set_option maxRecDepth 65536 in
theorem w_hears : about1.hears theMethod below0 = true := by decide +kernel
set_option maxRecDepth 65536 in
theorem w_ripe : about1.ripe theMethod args0 below0 = true := by decide +kernel
theorem w_running : about1.status = .running := rfl
set_option maxRecDepth 65536 in
theorem w_room : about1.hasRoom e0.platform room_1 = true :=
  launch0.hasRoom_least _ room_1 (by decide +kernel) (by decide +kernel) (by decide +kernel) (by decide +kernel) (by decide +kernel) (by decide +kernel)
theorem allAtoms_all (ts : List Jvm.Cond) (a : Array Jvm.Value) (st : Jvm.State) : (allAtoms ts).before a st = ts.all (fun c => c.before a st) := by
  induction ts with
  | nil => rfl
  | cons c t ih =>
    show (Jvm.Cond.and c (allAtoms t)).before a st = _
    rw [Jvm.Cond.before_and, ih, List.all_cons]
def words1 : List Jvm.Cond := Jvm.Cond.code x code maxLocals ret :: tables_1
/-- a 'code' word, met by the world's own term for the bytes: nothing is compared byte by byte -/
theorem code_word {y : MethodName} {bytes : ByteArray} {mx : Nat} {rt : Option FieldType} {a : Array Value} {s : State} {m : MethodId} {meth : Method} {c : Code} (h1 : s.methodNamed? y = some m) (h2 : s.vm.method? m = some meth) (h3 : meth.code = some c) (h4 : c.code = bytes)
    (h5 : (c.maxLocals == mx && c.exceptionTable.isEmpty && decide (c.maxStack ≤ mostOperands) && decide (meth.sig.returnType = rt) && !meth.locks && decide (parseMethodDescriptor y.desc = some meth.sig)) = true) : (Jvm.Cond.code y bytes mx rt).before a s = true := by
  simp only [Bool.and_eq_true, beq_iff_eq, Bool.not_eq_true', decide_eq_true_eq] at h5
  obtain ⟨⟨⟨⟨⟨g1, g2⟩, g3⟩, g4⟩, g5⟩, g6⟩ := h5
  simp [Cond.before, Cond.holds, Cond.value, h1, h2, h3, h4, g1, g2, g3, g4, g5, g6]
def isCode : Jvm.Cond → Bool
  | .code _ _ _ _ => true
  | _ => false
theorem all_split {L : List Jvm.Cond} {P : Jvm.Cond → Bool} (h1 : L.all (fun c => isCode c || P c) = true) (h2 : ∀ c ∈ L.filter isCode, P c = true) : L.all P = true := by
  refine List.all_eq_true.mpr fun c hc => ?_
  have h := List.all_eq_true.mp h1 c hc
  rcases Bool.eq_false_or_eq_true (isCode c) with hi | hi
  · exact h2 c (List.mem_filter.mpr ⟨hc, hi⟩)
  · simpa [hi] using h
set_option maxRecDepth 65536 in
theorem w_c0 : (Jvm.Cond.code x code maxLocals ret).before args0 about1 = true := code_word (m := ⟨1, 2⟩) (meth := k1m2) (c := k1c2) (by decide +kernel) rfl rfl rfl (by decide +kernel)
set_option maxRecDepth 65536 in
theorem w_c1 : (Jvm.Cond.code ({ cls := "com/example/fourfold/fourfold/xdr/FragmentMapInStreamPinLaw", name := "len", desc := "(I)I" } : Jvm.MethodName) method_2_code (1 : Nat) (Option.some Jvm.ClassFile.FieldType.int)).before args0 about1 = true := code_word (m := ⟨1, 1⟩) (meth := k1m1) (c := k1c1) (by decide +kernel) rfl rfl rfl (by decide +kernel)
set_option maxRecDepth 65536 in
theorem w_c2 : (Jvm.Cond.code ({ cls := "com/example/fourfold/fourfold/xdr/FragmentMap", name := "<init>", desc := "()V" } : Jvm.MethodName) prog_88_method_1_code (1 : Nat) (Option.none : Option Jvm.ClassFile.FieldType)).before args0 about1 = true := code_word (m := ⟨2, 0⟩) (meth := k2m0) (c := k2c0) (by decide +kernel) rfl rfl rfl (by decide +kernel)
set_option maxRecDepth 65536 in
theorem w_c3 : (Jvm.Cond.code ({ cls := "java/lang/Object", name := "<init>", desc := "()V" } : Jvm.MethodName) object_method_1_code (1 : Nat) (Option.none : Option Jvm.ClassFile.FieldType)).before args0 about1 = true := code_word (m := ⟨0, 0⟩) (meth := k0m0) (c := k0c0) (by decide +kernel) rfl rfl rfl (by decide +kernel)
set_option maxRecDepth 65536 in
theorem w_c4 : (Jvm.Cond.code ({ cls := "com/example/fourfold/fourfold/xdr/FragmentMap", name := "begin", desc := "(J)V" } : Jvm.MethodName) prog_88_method_2_code (3 : Nat) (Option.none : Option Jvm.ClassFile.FieldType)).before args0 about1 = true := code_word (m := ⟨2, 1⟩) (meth := k2m1) (c := k2c1) (by decide +kernel) rfl rfl rfl (by decide +kernel)
set_option maxRecDepth 65536 in
theorem w_c5 : (Jvm.Cond.code ({ cls := "com/example/fourfold/fourfold/xdr/FragmentMap", name := "add", desc := "(I)V" } : Jvm.MethodName) prog_88_method_3_code (2 : Nat) (Option.none : Option Jvm.ClassFile.FieldType)).before args0 about1 = true := code_word (m := ⟨2, 2⟩) (meth := k2m2) (c := k2c2) (by decide +kernel) rfl rfl rfl (by decide +kernel)
set_option maxRecDepth 65536 in
theorem w_c6 : (Jvm.Cond.code ({ cls := "com/example/fourfold/fourfold/xdr/FragmentMap", name := "put", desc := "(J)V" } : Jvm.MethodName) prog_88_method_5_code (5 : Nat) (Option.none : Option Jvm.ClassFile.FieldType)).before args0 about1 = true := code_word (m := ⟨2, 4⟩) (meth := k2m4) (c := k2c4) (by decide +kernel) rfl rfl rfl (by decide +kernel)
set_option maxRecDepth 65536 in
theorem w_c7 : (Jvm.Cond.code ({ cls := "com/example/fourfold/fourfold/xdr/FragmentMap", name := "append", desc := "(B)V" } : Jvm.MethodName) prog_88_method_6_code (2 : Nat) (Option.none : Option Jvm.ClassFile.FieldType)).before args0 about1 = true := code_word (m := ⟨2, 5⟩) (meth := k2m5) (c := k2c5) (by decide +kernel) rfl rfl rfl (by decide +kernel)
set_option maxRecDepth 65536 in
theorem w_c8 : (Jvm.Cond.code ({ cls := "com/example/fourfold/fourfold/xdr/FragmentMap", name := "inStream", desc := "(J)J" } : Jvm.MethodName) prog_88_method_4_code (14 : Nat) (Option.some Jvm.ClassFile.FieldType.long)).before args0 about1 = true := code_word (m := ⟨2, 3⟩) (meth := k2m3) (c := k2c3) (by decide +kernel) rfl rfl rfl (by decide +kernel)
set_option maxRecDepth 65536 in
theorem w_c9 : (Jvm.Cond.code ({ cls := "java/util/Arrays", name := "copyOf", desc := "([BI)[B" } : Jvm.MethodName) jdk_65_method_121_code (3 : Nat) (Option.some (Jvm.ClassFile.FieldType.array Jvm.ClassFile.FieldType.byte))).before args0 about1 = true := code_word (m := ⟨3, 1⟩) (meth := k3m1) (c := k3c1) (by decide +kernel) rfl rfl rfl (by decide +kernel)
set_option maxRecDepth 65536 in
theorem w_c10 : (Jvm.Cond.code ({ cls := "java/lang/Math", name := "min", desc := "(II)I" } : Jvm.MethodName) jdk_29_method_69_code (2 : Nat) (Option.some Jvm.ClassFile.FieldType.int)).before args0 about1 = true := code_word (m := ⟨4, 1⟩) (meth := k4m1) (c := k4c1) (by decide +kernel) rfl rfl rfl (by decide +kernel)
def codes1 : List Jvm.Cond := [Jvm.Cond.code x code maxLocals ret, Jvm.Cond.code ({ cls := "com/example/fourfold/fourfold/xdr/FragmentMapInStreamPinLaw", name := "len", desc := "(I)I" } : Jvm.MethodName) method_2_code (1 : Nat) (Option.some Jvm.ClassFile.FieldType.int), Jvm.Cond.code ({ cls := "com/example/fourfold/fourfold/xdr/FragmentMap", name := "<init>", desc := "()V" } : Jvm.MethodName) prog_88_method_1_code (1 : Nat) (Option.none : Option Jvm.ClassFile.FieldType), Jvm.Cond.code ({ cls := "java/lang/Object", name := "<init>", desc := "()V" } : Jvm.MethodName) object_method_1_code (1 : Nat) (Option.none : Option Jvm.ClassFile.FieldType), Jvm.Cond.code ({ cls := "com/example/fourfold/fourfold/xdr/FragmentMap", name := "begin", desc := "(J)V" } : Jvm.MethodName) prog_88_method_2_code (3 : Nat) (Option.none : Option Jvm.ClassFile.FieldType), Jvm.Cond.code ({ cls := "com/example/fourfold/fourfold/xdr/FragmentMap", name := "add", desc := "(I)V" } : Jvm.MethodName) prog_88_method_3_code (2 : Nat) (Option.none : Option Jvm.ClassFile.FieldType), Jvm.Cond.code ({ cls := "com/example/fourfold/fourfold/xdr/FragmentMap", name := "put", desc := "(J)V" } : Jvm.MethodName) prog_88_method_5_code (5 : Nat) (Option.none : Option Jvm.ClassFile.FieldType), Jvm.Cond.code ({ cls := "com/example/fourfold/fourfold/xdr/FragmentMap", name := "append", desc := "(B)V" } : Jvm.MethodName) prog_88_method_6_code (2 : Nat) (Option.none : Option Jvm.ClassFile.FieldType), Jvm.Cond.code ({ cls := "com/example/fourfold/fourfold/xdr/FragmentMap", name := "inStream", desc := "(J)J" } : Jvm.MethodName) prog_88_method_4_code (14 : Nat) (Option.some Jvm.ClassFile.FieldType.long), Jvm.Cond.code ({ cls := "java/util/Arrays", name := "copyOf", desc := "([BI)[B" } : Jvm.MethodName) jdk_65_method_121_code (3 : Nat) (Option.some (Jvm.ClassFile.FieldType.array Jvm.ClassFile.FieldType.byte)), Jvm.Cond.code ({ cls := "java/lang/Math", name := "min", desc := "(II)I" } : Jvm.MethodName) jdk_29_method_69_code (2 : Nat) (Option.some Jvm.ClassFile.FieldType.int)]
set_option maxRecDepth 65536 in
theorem codes_eq : words1.filter isCode = codes1 := rfl
theorem w_codes : ∀ c ∈ words1.filter isCode, c.before args0 about1 = true := by
  rw [codes_eq]
  intro c hc
  simp only [codes1, List.mem_cons, List.not_mem_nil, or_false] at hc
  rcases hc with rfl | rfl | rfl | rfl | rfl | rfl | rfl | rfl | rfl | rfl | rfl
  · exact w_c0
  · exact w_c1
  · exact w_c2
  · exact w_c3
  · exact w_c4
  · exact w_c5
  · exact w_c6
  · exact w_c7
  · exact w_c8
  · exact w_c9
  · exact w_c10
set_option maxRecDepth 65536 in
theorem w_t1 : (words1.take 24).all (fun c => isCode c || c.before args0 about1) = true := by decide +kernel
set_option maxRecDepth 65536 in
theorem w_t2 : ((words1.drop 24).take 24).all (fun c => isCode c || c.before args0 about1) = true := by decide +kernel
set_option maxRecDepth 65536 in
theorem w_t3 : ((words1.drop 24).drop 24).all (fun c => isCode c || c.before args0 about1) = true := by decide +kernel
theorem w_tables : (allAtoms (Jvm.Cond.code x code maxLocals ret :: tables_1)).before args0 about1 = true := by
  rw [allAtoms_all]
  show words1.all (fun c => c.before args0 about1) = true
  refine all_split ?_ w_codes
  rw [← List.take_append_drop 24 words1, List.all_append, w_t1, ← List.take_append_drop 24 (words1.drop 24), List.all_append, w_t2, w_t3]
  rfl
set_option maxRecDepth 65536 in
theorem w_case : (Jvm.Cond.and given_1 narrow_1).before args0 about1 = true := by decide +kernel
theorem w_applies : (headSpec (Jvm.Cond.code x code maxLocals ret :: tables_1) room_1).applies x e0.platform about1 = true :=
  (Spec.applies_iff w_frames).mpr ⟨w_running, w_runnable, w_alone, w_named, w_hears, w_ripe, w_room, w_tables⟩
theorem atStart : AtStart classFile x code maxLocals ret World_1 tables_1 room_1 Calls_1 rest_1 Pre_1 launch0 p0 e0 about1 theMethod args0 below0 :=
  ⟨lists_1, trivial, launch0.admits_env _ _ _, launch0.least_env, fairChoices_fair.cas, fairChoices_fair.clock, w_frames, w_args, w_heap, w_applies, trivial, trivial, w_case⟩
end start1
theorem witness_1 : WitnessClaimed_1 := ⟨start1.p0, start1.e0, start1.about1, start1.theMethod, start1.args0, start1.below0, start1.atStart⟩
end Jvm.Pilot.@@N@@
