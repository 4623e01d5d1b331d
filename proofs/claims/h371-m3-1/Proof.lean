import JvmDerived
import JvmDerived.Pilot.@@N@@Statement
import JvmDerived.Pilot.@@N@@Code
set_option linter.unusedVariables false
set_option linter.unusedSimpArgs false
namespace Jvm.Pilot.@@N@@
open Jvm Jvm.ClassFile Sem Op Lib Jvm.Free Jvm.Stand Jvm.LawKit Jvm.RoadKit Bundle Jvm.Pilot.@@N@@.Jvm.D
section Own
variable {p : Program} {l : Launch} {e : Env} {R : Room} {s : State} {m : MethodId} {args : Array Value} {below : List Frame} {meth : Method} {c : Code} {T : State} {locs : List Loc} {cells slots : Nat} {Z : State} {a0 : Array Value} {h h' : Heap}
/-- from S the walk comes to the method's end, where Q holds of what is returned, the heap and the written places -/
def OEnds (p : Program) (e : Env) (below : List Frame) (s : State) (Q : Option Value → Heap → List Loc → Prop) (K N : Nat) (S : State) : Prop :=
  ∃ s₂ o, Steps p.tables e below S s₂ ∧ s₂.status = .running ∧ Ended s₂ below o ∧ ∃ v L, o = .returned v ∧ Q v s₂.heap L ∧ FrameEnd s o s₂ L K N
variable {Q Q' : Option Value → Heap → List Loc → Prop} {K N : Nat} {S S' : State}
theorem own_by (st : ∀ t, Steps p.tables e below S' t → Steps p.tables e below S t) (k : OEnds p e below s Q K N S') : OEnds p e below s Q K N S := by
  obtain ⟨a, o, h1, h2⟩ := k
  exact ⟨a, o, st _ h1, h2⟩
theorem own_tr (st : Steps p.tables e below S S') (k : OEnds p e below s Q K N S') : OEnds p e below s Q K N S := by
  obtain ⟨a, o, h1, h2⟩ := k
  exact ⟨a, o, st.trans h1, h2⟩
theorem own_mono (f : ∀ v h L, Q' v h L → Q v h L) (k : OEnds p e below s Q' K N S) : OEnds p e below s Q K N S := by
  obtain ⟨a, o, h1, h2, h3, v, L, h4, h5, h6⟩ := k
  exact ⟨a, o, h1, h2, h3, v, L, h4, f _ _ _ h5, h6⟩
theorem own_fin (X : Stand p l e R s m args below meth c T locs cells slots) (hlk : meth.locks = false) {v : Option Value} (hv : meth.sig.returnType = none → v = none) (hQ : Q v T.heap locs) (hK : cells ≤ K) (hN : slots ≤ N)
    (hst : ∀ fs, (∀ (f : JFrame) (acts : List Action), f.method = m → f.locked = none → f.entered = [] → (doReturn e (T.setTop f) acts v).1 = T.setFrames fs) → Steps p.tables e below S (T.setFrames fs)) : OEnds p e below s Q K N S := by
  obtain ⟨fs, hr, hrun, hended, hW, hsame⟩ := X.leave hv hlk
  exact ⟨_, _, hst fs hr, hrun, hended, _, _, rfl, hQ, ⟨_, rfl⟩, hW, hsame.mono hK hN⟩
theorem own_retI (X : Stand p l e R s m args below meth c T locs cells slots) (hx : p.tables.exec = Jvm.exec) (hlk : meth.locks = false) {pc : Nat} {Ls : Array Slot} {z : Int32} {rest : List Value} (hret : meth.sig.returnType = some .int) (hd : decode c.code pc = .ok (.ireturn, 1))
    (hQ : Q (some (.int z)) T.heap locs) (hK : cells ≤ K) (hN : slots ≤ N) : OEnds p e below s Q K N (T.setTop (mkF m pc Ls (.int z :: rest))) :=
  own_fin X hlk (fun q => by rw [hret] at q; cases q) hQ hK hN fun _ hr => retOut X hx hret rfl (Or.inl ⟨rfl, Or.inl rfl, _, rfl⟩) hd hr
theorem own_retN (X : Stand p l e R s m args below meth c T locs cells slots) (hx : p.tables.exec = Jvm.exec) (hlk : meth.locks = false) (t : FieldType) (ht : t = .boolean ∨ t = .byte ∨ t = .char ∨ t = .short) {pc : Nat} {Ls : Array Slot} {z : Int32} {rest : List Value} (hret : meth.sig.returnType = some t) (hd : decode c.code pc = .ok (.ireturn, 1))
    (hQ : Q (some (.int (nar t z))) T.heap locs) (hK : cells ≤ K) (hN : slots ≤ N) : OEnds p e below s Q K N (T.setTop (mkF m pc Ls (.int z :: rest))) :=
  own_fin X hlk (fun q => by rw [hret] at q; cases q) hQ hK hN fun _ hr => retN X hx hret ht hd hr
theorem own_retJ (X : Stand p l e R s m args below meth c T locs cells slots) (hx : p.tables.exec = Jvm.exec) (hlk : meth.locks = false) {pc : Nat} {Ls : Array Slot} {z : Int64} {rest : List Value} (hret : meth.sig.returnType = some .long) (hd : decode c.code pc = .ok (.lreturn, 1))
    (hQ : Q (some (.long z)) T.heap locs) (hK : cells ≤ K) (hN : slots ≤ N) : OEnds p e below s Q K N (T.setTop (mkF m pc Ls (.long z :: rest))) :=
  own_fin X hlk (fun q => by rw [hret] at q; cases q) hQ hK hN fun _ hr => retOut X hx hret rfl (Or.inr (Or.inl ⟨rfl, rfl, _, rfl⟩)) hd hr
theorem own_retA (X : Stand p l e R s m args below meth c T locs cells slots) (hx : p.tables.exec = Jvm.exec) (hlk : meth.locks = false) {t : FieldType} (ht : t.isReference = true) {pc : Nat} {Ls : Array Slot} {a : Addr} {rest : List Value} (hret : meth.sig.returnType = some t) (hn : narrow t (.ref a) = .ref a) (hd : decode c.code pc = .ok (.areturn, 1))
    (hQ : Q (some (.ref a)) T.heap locs) (hK : cells ≤ K) (hN : slots ≤ N) : OEnds p e below s Q K N (T.setTop (mkF m pc Ls (.ref a :: rest))) :=
  own_fin X hlk (fun q => by rw [hret] at q; cases q) hQ hK hN fun _ hr => retOut X hx hret hn (Or.inr (Or.inr (Or.inr (Or.inr ⟨rfl, ht, rfl⟩)))) hd hr
theorem own_retV (X : Stand p l e R s m args below meth c T locs cells slots) (hx : p.tables.exec = Jvm.exec) (hlk : meth.locks = false) {pc : Nat} {Ls : Array Slot} (hret : meth.sig.returnType = none) (hd : decode c.code pc = .ok (.return_, 1))
    (hQ : Q none T.heap locs) (hK : cells ≤ K) (hN : slots ≤ N) : OEnds p e below s Q K N (T.setTop (mkF m pc Ls [])) :=
  own_fin X hlk (fun _ => rfl) hQ hK hN fun _ hr => X.returnOut hx hret hd hr
/-- what a plain method leaves: its value, nothing written, the heap as it was -/
def QP (r : Value) (h0 : Heap) (v : Option Value) (h : Heap) (L : List Loc) : Prop := v = some r ∧ L = [] ∧ h = h0
theorem own_eq {r r' : Value} {h0 : Heap} (q : r = r') (k : OEnds p e below s (QP r' h0) K N S) : OEnds p e below s (QP r h0) K N S := by subst q; exact k
theorem own_lrem {g : JFrame} {target : State} (X : Stand p l e R s m args below meth c T locs cells slots) (hx : p.tables.exec = Jvm.exec) (hg : g.method = m) {x y : Int64} {rest : List Value} (hd : decode c.code g.pc = .ok (.lrem, 1)) (hs : g.stack = .long y :: .long x :: rest) (hy : y ≠ 0)
    (hr : Steps p.tables e below (T.setTop { g with pc := g.pc + 1, stack := .long (x % y) :: rest }) target) : Steps p.tables e below (T.setTop g) target := by
  have q : x - x / y * y = x % y := lrem_mod x y
  exact XS.lrem X.here hx hg hd hs hy (by rw [q]; exact hr)
/-- a call of a plain static method by its contract -/
theorem own_callP (X : Stand p l e R s m args below meth c T locs cells slots) (hx : p.tables.exec = Jvm.exec) (hZ : Z.Warmed39 s.vm) {own : String} {index : Nat} {y : MethodName} {bytes : ByteArray} {maxL : Nat} {ret : Option FieldType} {fr lo : Nat} {r : Value} {argsL rest : List Value} {g : JFrame}
    (hown : s.vm.findClass own = some m.cls) (w1 : (Cond.methodLink own index y).before a0 Z = true) (w2 : (Cond.static y).before a0 Z = true) (w3 : (Cond.initialized y.cls).before a0 Z = true) (w4 : (Cond.code y bytes maxL ret).before a0 Z = true)
    (hy : y.cls ≠ "java/lang/invoke/MethodHandle" ∧ y.cls ≠ "java/lang/invoke/VarHandle")
    (hM : MetFree l y (head1 [Cond.code y bytes maxL ret] ({ frames := fr, cells := 0, slots := 0, locals := lo } : Room)) (fun a U => a = argsL.toArray ∧ Z.Warmed39 U.vm ∧ U.heap = h) (fun _ _ _ _ _ => True) (fun _ U o U' => ∃ v L, o = .returned v ∧ QP r h v U'.heap L ∧ FrameEnd U o U' L 0 0))
    (eT : T.heap = h) (hg : g.method = m) (hsize : g.locals.size = c.maxLocals) (hlen : ∀ sig, parseMethodDescriptor y.desc = some sig → argsL.length = sig.parameters.length) (hstack : g.stack = argsL.reverse ++ rest) {W : Nat} (hW : 2 * g.monitorRoom + (rest.map fun v => v.category).sum ≤ W)
    (hd : decode c.code g.pc = .ok (.invokestatic index, 3)) (hf : fr + 1 ≤ R.frames) (hl : W + (maxL + 11) + lo ≤ R.locals) (hc : cells ≤ R.cells) (hs : slots ≤ R.slots) :
    ∃ T', Stand p l e R s m args below meth c T' locs cells slots ∧ T'.heap = h ∧ ∀ target, Steps p.tables e below (T'.setTop { g with pc := g.pc + 3, stack := r :: rest }) target → Steps p.tables e below (T.setTop g) target := by
  obtain ⟨_, _, ⟨T1, L1, k1, n1⟩, -, X1, ⟨Lc, hQ, l1, y1, z1⟩, st⟩ := Jvm.LawKit.callS X hx (y := y) hown (mvT hZ w1) (mvT hZ w2) (mvT hZ w3) (mvT hZ w4) hy (backOf (rm := ({ frames := fr, cells := 0, slots := 0, locals := lo } : Room)) (W := W) hM hZ w4 w3 hf hl) (g := g) hg hsize (argsL := argsL) (rest := rest) hlen hstack hW hd (fun _ _ => ⟨rfl, eT, hc, hs⟩)
  dsimp only [Pt.U, Pt.locs, Pt.cells, Pt.slots] at X1 l1 y1 z1 st hQ
  subst l1 y1 z1
  obtain ⟨rfl, rfl, e1⟩ := hQ
  rw [List.append_nil] at X1
  exact ⟨T1, X1, e1, st⟩
end Own
section Own2
variable {p : Program} {l : Launch} {e : Env} {R : Room} {s : State} {m : MethodId} {args : Array Value} {below : List Frame} {meth : Method} {c : Code} {T : State} {locs : List Loc} {cells slots : Nat} {Z : State} {a0 : Array Value} {h h' : Heap}
  {a b : Addr} {C : String} {sch : List (String × String)} {vs : List Value} {ws : List Addr} {sl : Nat} {v : Value}
/-- the object at a is exactly a C, and its fields (in the order of sch) hold vs -/
def Obj (Z : State) (h : Heap) (a : Addr) (C : String) (sch : List (String × String)) (vs : List Value) : Prop :=
  Exa Z h a C ∧ ∀ (i : Nat) (n d : String) (v : Value), sch[i]? = some (n, d) → vs[i]? = some v → Fld Z h a C n d v
def SchOk (Z : State) (a0 : Array Value) (C : String) (sch : List (String × String)) : Prop :=
  (∀ q ∈ sch, Laid Z a0 C C q.1 q.2) ∧ (∀ q ∈ sch, (parseFieldDescriptor q.2).isSome = true) ∧ (sch.map (·.1)).Nodup
theorem Obj.exa (O : Obj Z h a C sch vs) : Exa Z h a C := O.1
theorem Obj.lt (O : Obj Z h a C sch vs) : a < h.size := O.1.lt
theorem Obj.fld (O : Obj Z h a C sch vs) (i : Nat) {n d : String} {v : Value} (h1 : sch[i]? = some (n, d)) (h2 : vs[i]? = some v) : Fld Z h a C n d v := O.2 i n d v h1 h2
theorem Obj.ext (O : Obj Z h a C sch vs) (E : Ext h h') : Obj Z h' a C sch vs := ⟨O.1.ext E, fun i n d v h1 h2 => (O.2 i n d v h1 h2).ext E⟩
theorem Obj.other (O : Obj Z h b C sch vs) (W : Wr h h' a sl v) (q : b ≠ a) : Obj Z h' b C sch vs := ⟨O.1.wr W, fun i n d v h1 h2 => (O.2 i n d v h1 h2).other W (Or.inl q)⟩
theorem Obj.keep (O : Obj Z h a C sch vs) (K : Keep h h' ws) (q : a ∉ ws) : Obj Z h' a C sch vs := ⟨O.1.keep K, fun i n d v h1 h2 => (O.2 i n d v h1 h2).keep K q⟩
theorem sch_ne (S : SchOk Z a0 C sch) {i j : Nat} {n d n' d' : String} (hi : sch[i]? = some (n, d)) (hj : sch[j]? = some (n', d')) (ne : i ≠ j) : n ≠ n' := by
  intro q
  have h3 := S.2.2
  rw [List.nodup_iff_pairwise_ne, List.pairwise_iff_getElem] at h3
  have e1 : (sch.map (·.1))[i]? = some n := by rw [List.getElem?_map, hi]; rfl
  have e2 : (sch.map (·.1))[j]? = some n' := by rw [List.getElem?_map, hj]; rfl
  obtain ⟨l1, f1⟩ := List.getElem?_eq_some_iff.mp e1
  obtain ⟨l2, f2⟩ := List.getElem?_eq_some_iff.mp e2
  rcases Nat.lt_or_gt_of_ne ne with k | k
  · exact h3 i j l1 l2 k (by rw [f1, f2, q])
  · exact h3 j i l2 l1 k (by rw [f1, f2, q])
theorem sch_ty (S : SchOk Z a0 C sch) {i : Nat} {n d : String} (hi : sch[i]? = some (n, d)) : ∃ t, parseFieldDescriptor d = some t :=
  Option.isSome_iff_exists.mp (S.2.1 _ (List.mem_of_getElem? hi))
theorem Obj.set (O : Obj Z h a C sch vs) (S : SchOk Z a0 C sch) {n d : String} (W : Wr h h' a (Jvm.RoadKit.slotOf Z C n d) v) (i : Nat) (hi : sch[i]? = some (n, d)) (hl : i < vs.length) : Obj Z h' a C sch (vs.set i v) := by
  refine ⟨O.1.wr W, fun j n' d' w h1 h2 => ?_⟩
  by_cases q : j = i
  · subst q
    cases hi.symm.trans h1
    rw [List.getElem?_set_self hl] at h2
    cases h2
    exact Fld.same W (O.2 j n d _ hi (List.getElem?_eq_getElem hl))
  · rw [List.getElem?_set_ne (Ne.symm q)] at h2
    obtain ⟨t, ht⟩ := sch_ty S hi
    obtain ⟨t', ht'⟩ := sch_ty S h1
    have L1 : Laid Z a0 C C n' d' := S.1 (n', d') (List.mem_of_getElem? h1)
    have L2 : Laid Z a0 C C n d := S.1 (n, d) (List.mem_of_getElem? hi)
    exact Fld.other W (O.2 j n' d' w h1 h2) (Or.inr (slot_ne L1 L2 (sch_ne S h1 hi q) ht' ht))
theorem Obj.new (S : SchOk Z a0 C sch) (A : Exa Z h a C) (D : ∀ {O nm d : String} {ty : FieldType}, Laid Z a0 C O nm d → parseFieldDescriptor d = some ty → Fld Z h a O nm d (defaultValue ty)) (tys : List FieldType) (ht : sch.map (fun q => parseFieldDescriptor q.2) = tys.map some) : Obj Z h a C sch (tys.map defaultValue) := by
  refine ⟨A, fun i n d v h1 h2 => ?_⟩
  rw [List.getElem?_map] at h2
  have e1 : (sch.map (fun q => parseFieldDescriptor q.2))[i]? = some (parseFieldDescriptor d) := by rw [List.getElem?_map, h1]; rfl
  rw [ht, List.getElem?_map] at e1
  cases hq : tys[i]? with
  | none => rw [hq] at e1; cases e1
  | some t =>
    rw [hq] at e1 h2
    cases h2
    exact D (S.1 _ (List.mem_of_getElem? h1)) (Option.some.inj e1).symm
/-- an array of n places whose i-th holds f i -/
def FA (Z : State) (h : Heap) (a : Addr) (ty : FieldType) (n : Nat) (f : Nat → Value) : Prop :=
  ∃ c : Cell, Arr Z h a c ty ∧ c.slots.size = n ∧ n < 2 ^ 31 ∧ ∀ i, i < n → c.slots[i]? = some (f i)
variable {ty ty' : FieldType} {n n' : Nat} {f f' : Nat → Value}
theorem FA.lt (F : FA Z h a ty n f) : a < h.size := by obtain ⟨c, A, -⟩ := F; exact A.lt
theorem FA.ext (F : FA Z h a ty n f) (E : Ext h h') : FA Z h' a ty n f := by obtain ⟨c, A, r⟩ := F; exact ⟨c, A.ext E, r⟩
theorem FA.other (F : FA Z h b ty n f) (W : Wr h h' a sl v) (q : b ≠ a) : FA Z h' b ty n f := by obtain ⟨c, A, r⟩ := F; exact ⟨c, A.other W q, r⟩
theorem FA.keep (F : FA Z h a ty n f) (K : Keep h h' ws) (q : a ∉ ws) : FA Z h' a ty n f := by obtain ⟨c, A, r⟩ := F; exact ⟨c, ⟨K.2.1 _ _ A.1 q, A.2⟩, r⟩
theorem FA.congr (F : FA Z h a ty n f) (q : ∀ i, i < n → f i = f' i) : FA Z h a ty n f' := by
  obtain ⟨c, A, r1, r2, r3⟩ := F
  exact ⟨c, A, r1, r2, fun i hi => by rw [r3 i hi, q i hi]⟩
theorem FA.new {k : ClassId} {z : Int32} (A : Arr Z h a (newA k ty z) ty) (q : ¬ z < 0) (hn : z.toNatClampNeg = n) {d : Value} (hd : defaultValue ty = d) : FA Z h a ty n (fun _ => d) := by
  subst hn hd
  refine ⟨_, A, sz_new _ _ _, (back32 q).2, fun i hi => ?_⟩
  show (Array.replicate z.toNatClampNeg (defaultValue ty))[i]? = _
  simp [hi]
theorem FA.set (F : FA Z h a ty n f) {k : Nat} (W : Wr h h' a k v) : FA Z h' a ty n (fun i => if i = k then v else f i) := by
  obtain ⟨c, A, r1, r2, r3⟩ := F
  refine ⟨c.setSlot k v, A.same W, by rw [sz_set]; exact r1, r2, fun i hi => ?_⟩
  show (c.slots.setIfInBounds k v)[i]? = _
  by_cases q : i = k
  · subst q; simp [r1, hi]
  · rw [Array.getElem?_setIfInBounds_ne (Ne.symm q), r3 i hi]; simp [q]
theorem FA.ne_ty (F : FA Z h a ty n f) (G : FA Z h b ty' n' f') (q : ty ≠ ty') : a ≠ b := fun e => by
  subst e
  obtain ⟨c, A, -⟩ := F
  obtain ⟨c', A', -⟩ := G
  cases A.1.symm.trans A'.1
  obtain ⟨-, k1, j1, comp, j2⟩ := A.2.1
  obtain ⟨-, k2, i1, comp', i2⟩ := A'.2.1
  cases j1.symm.trans i1
  rw [j2] at i2
  cases i2
  exact q rfl
theorem Obj.ne_fa {kk : Nat} (O : Obj Z h a C sch vs) (wi : (Cond.instantiable C kk).before a0 Z = true) (F : FA Z h b ty n f) : a ≠ b := by
  obtain ⟨c, A, -⟩ := F
  exact ne_arr O.1 wi A
theorem nat_at {j : Int32} {k : Nat} (hk : j.toInt = (k : Int)) : j.toNatClampNeg = k ∧ ¬ j < 0 := by
  refine ⟨by show j.toInt.toNat = k; rw [hk]; rfl, fun q => ?_⟩
  rw [Int32.lt_iff_toInt_lt, hk] at q
  have : (0 : Int32).toInt = 0 := by decide
  omega
theorem inb {j : Int32} {k : Nat} {c : Cell} (hk : j.toInt = (k : Int)) (hn : c.slots.size = n) (hl : k < n) : ¬ (j < 0 ∨ c.slots.size ≤ j.toNatClampNeg) := by
  obtain ⟨h1, h2⟩ := nat_at hk
  rw [h1, hn]
  rintro (q | q)
  · exact h2 q
  · omega
theorem own_laload (X : Stand p l e R s m args below meth c T locs cells slots) (hx : p.tables.exec = Jvm.exec) (hZ : Z.Warmed39 s.vm) (eT : T.heap = h) (F : FA Z h a .long n f) {j : Int32} (k : Nat) (hk : j.toInt = (k : Int)) (hl : k < n) (hv : f k = v)
    {g : JFrame} (hg : g.method = m) {rest : List Value} (hs : g.stack = .int j :: .ref a :: rest) (hd : decode c.code g.pc = .ok (.laload, 1)) : ∀ target, Steps p.tables e below (T.setTop { g with pc := g.pc + 1, stack := v :: rest }) target → Steps p.tables e below (T.setTop g) target := by
  obtain ⟨cl, A, r1, r2, r3⟩ := F
  exact fun t k' => X.laload hx (by rw [eT]; exact A.1) (State.isArrayOf_alike hZ.alike A.2.1) A.2.2 (inb hk r1 hl) (by rw [(nat_at hk).1, r3 k hl, hv]) hg hs hd t k'
theorem own_iaload (X : Stand p l e R s m args below meth c T locs cells slots) (hx : p.tables.exec = Jvm.exec) (hZ : Z.Warmed39 s.vm) (eT : T.heap = h) (F : FA Z h a .int n f) {j : Int32} (k : Nat) (hk : j.toInt = (k : Int)) (hl : k < n) (hv : f k = v)
    {g : JFrame} (hg : g.method = m) {rest : List Value} (hs : g.stack = .int j :: .ref a :: rest) (hd : decode c.code g.pc = .ok (.iaload, 1)) : ∀ target, Steps p.tables e below (T.setTop { g with pc := g.pc + 1, stack := v :: rest }) target → Steps p.tables e below (T.setTop g) target := by
  obtain ⟨cl, A, r1, r2, r3⟩ := F
  exact fun t k' => X.iaload hx (by rw [eT]; exact A.1) (State.isArrayOf_alike hZ.alike A.2.1) A.2.2 (inb hk r1 hl) (by rw [(nat_at hk).1, r3 k hl, hv]) hg hs hd t k'
theorem own_baload (X : Stand p l e R s m args below meth c T locs cells slots) (hx : p.tables.exec = Jvm.exec) (hZ : Z.Warmed39 s.vm) (eT : T.heap = h) (F : FA Z h a .byte n f) {j : Int32} (k : Nat) (hk : j.toInt = (k : Int)) (hl : k < n) (hv : f k = v)
    {g : JFrame} (hg : g.method = m) {rest : List Value} (hs : g.stack = .int j :: .ref a :: rest) (hd : decode c.code g.pc = .ok (.baload, 1)) : ∀ target, Steps p.tables e below (T.setTop { g with pc := g.pc + 1, stack := v :: rest }) target → Steps p.tables e below (T.setTop g) target := by
  obtain ⟨cl, A, r1, r2, r3⟩ := F
  exact fun t k' => X.baloadBytes hx (by rw [eT]; exact A.1) (State.isArrayOf_alike hZ.alike A.2.1) A.2.2 (inb hk r1 hl) (by rw [(nat_at hk).1, r3 k hl, hv]) hg hs hd t k'
theorem own_aaload (X : Stand p l e R s m args below meth c T locs cells slots) (hx : p.tables.exec = Jvm.exec) (hZ : Z.Warmed39 s.vm) (eT : T.heap = h) (F : FA Z h a ty n f) (hty : ty.isReference = true) {j : Int32} (k : Nat) (hk : j.toInt = (k : Int)) (hl : k < n) (hv : f k = v)
    {g : JFrame} (hg : g.method = m) {rest : List Value} (hs : g.stack = .int j :: .ref a :: rest) (hd : decode c.code g.pc = .ok (.aaload, 1)) : ∀ target, Steps p.tables e below (T.setTop { g with pc := g.pc + 1, stack := v :: rest }) target → Steps p.tables e below (T.setTop g) target := by
  obtain ⟨cl, A, r1, r2, r3⟩ := F
  exact fun t k' => X.aaload hx (by rw [eT]; exact A.1) (State.isArrayOf_alike hZ.alike A.2.1) hty A.2.2 (inb hk r1 hl) (by rw [(nat_at hk).1, r3 k hl, hv]) hg hs hd t k'
theorem own_len (X : Stand p l e R s m args below meth c T locs cells slots) (hx : p.tables.exec = Jvm.exec) (hZ : Z.Warmed39 s.vm) (eT : T.heap = h) (F : FA Z h a ty n f) {z : Int32} (hz : n.toInt32 = z)
    {g : JFrame} (hg : g.method = m) {rest : List Value} (hs : g.stack = .ref a :: rest) (hd : decode c.code g.pc = .ok (.arraylength, 1)) : ∀ target, Steps p.tables e below (T.setTop { g with pc := g.pc + 1, stack := .int z :: rest }) target → Steps p.tables e below (T.setTop g) target := by
  obtain ⟨cl, A, r1, r2, r3⟩ := F
  refine fun t k' => X.arraylength hx (by rw [eT]; exact A.1) (State.isArrayOf_alike hZ.alike A.2.1) hg hs hd t ?_
  rw [r1, hz]; exact k'
theorem own_iastore (X : Stand p l e R s m args below meth c T locs cells slots) (hx : p.tables.exec = Jvm.exec) (hZ : Z.Warmed39 s.vm) (eT : T.heap = h) (F : FA Z h a .int n f) {j x : Int32} (k : Nat) (hk : j.toInt = (k : Int)) (hl : k < n)
    {g : JFrame} (hg : g.method = m) {rest : List Value} (hs : g.stack = .int x :: .int j :: .ref a :: rest) (hd : decode c.code g.pc = .ok (.iastore, 1)) :
    ∃ T' h', Stand p l e R s m args below meth c T' (locs ++ [⟨a, k⟩]) cells slots ∧ T'.heap = h' ∧ Wr h h' a k (.int x) ∧ ∀ target, Steps p.tables e below (T'.setTop { g with pc := g.pc + 1, stack := rest }) target → Steps p.tables e below (T.setTop g) target := by
  obtain ⟨cl, A, r1, r2, r3⟩ := F
  have q := stI X hx hZ eT A (x := x) (inb hk r1 hl) hg hs hd
  rw [(nat_at hk).1] at q
  exact q
theorem own_lastore (X : Stand p l e R s m args below meth c T locs cells slots) (hx : p.tables.exec = Jvm.exec) (hZ : Z.Warmed39 s.vm) (eT : T.heap = h) (F : FA Z h a .long n f) {j : Int32} {x : Int64} (k : Nat) (hk : j.toInt = (k : Int)) (hl : k < n)
    {g : JFrame} (hg : g.method = m) {rest : List Value} (hs : g.stack = .long x :: .int j :: .ref a :: rest) (hd : decode c.code g.pc = .ok (.lastore, 1)) :
    ∃ T' h', Stand p l e R s m args below meth c T' (locs ++ [⟨a, k⟩]) cells slots ∧ T'.heap = h' ∧ Wr h h' a k (.long x) ∧ ∀ target, Steps p.tables e below (T'.setTop { g with pc := g.pc + 1, stack := rest }) target → Steps p.tables e below (T.setTop g) target := by
  obtain ⟨cl, A, r1, r2, r3⟩ := F
  have q := stJ X hx hZ eT A (x := x) (inb hk r1 hl) hg hs hd
  rw [(nat_at hk).1] at q
  exact q
theorem own_bastore (X : Stand p l e R s m args below meth c T locs cells slots) (hx : p.tables.exec = Jvm.exec) (hZ : Z.Warmed39 s.vm) (eT : T.heap = h) (F : FA Z h a .byte n f) {j x : Int32} (k : Nat) (hk : j.toInt = (k : Int)) (hl : k < n)
    {g : JFrame} (hg : g.method = m) {rest : List Value} (hs : g.stack = .int x :: .int j :: .ref a :: rest) (hd : decode c.code g.pc = .ok (.bastore, 1)) :
    ∃ T' h', Stand p l e R s m args below meth c T' (locs ++ [⟨a, k⟩]) cells slots ∧ T'.heap = h' ∧ Wr h h' a k (.int (nar .byte x)) ∧ ∀ target, Steps p.tables e below (T'.setTop { g with pc := g.pc + 1, stack := rest }) target → Steps p.tables e below (T.setTop g) target := by
  obtain ⟨cl, A, r1, r2, r3⟩ := F
  have q := stB X hx hZ eT A (x := x) (inb hk r1 hl) hg hs hd
  rw [(nat_at hk).1] at q
  exact q
/-- the typed updates -/
def updL (f : Nat → Int64) (k : Nat) (x : Int64) : Nat → Int64 := fun i => if i = k then x else f i
def updI (f : Nat → Int32) (k : Nat) (x : Int32) : Nat → Int32 := fun i => if i = k then x else f i
theorem FA.setL {f : Nat → Int64} {x : Int64} (F : FA Z h a ty n (fun i => .long (f i))) {k : Nat} (W : Wr h h' a k (.long x)) : FA Z h' a ty n (fun i => .long (updL f k x i)) :=
  (F.set W).congr fun i _ => by by_cases q : i = k <;> simp [updL, q]
theorem FA.setI {f : Nat → Int32} {x : Int32} (F : FA Z h a ty n (fun i => .int (f i))) {k : Nat} (W : Wr h h' a k (.int x)) : FA Z h' a ty n (fun i => .int (updI f k x i)) :=
  (F.set W).congr fun i _ => by by_cases q : i = k <;> simp [updI, q]
/-- a call by a contract, whatever it writes or makes: static, virtual, a constructor's -/
theorem own_callS (X : Stand p l e R s m args below meth c T locs cells slots) (hx : p.tables.exec = Jvm.exec) (hZ : Z.Warmed39 s.vm) {own : String} {index : Nat} {y : MethodName} {bytes : ByteArray} {maxL : Nat} {ret : Option FieldType} {rm : Room} {Q : Option Value → Heap → List Loc → Prop} {argsL rest : List Value} {g : JFrame}
    (hown : s.vm.findClass own = some m.cls) (w1 : (Cond.methodLink own index y).before a0 Z = true) (w2 : (Cond.static y).before a0 Z = true) (w3 : (Cond.initialized y.cls).before a0 Z = true) (w4 : (Cond.code y bytes maxL ret).before a0 Z = true)
    (hy : y.cls ≠ "java/lang/invoke/MethodHandle" ∧ y.cls ≠ "java/lang/invoke/VarHandle")
    (hM : MetFree l y (head1 [Cond.code y bytes maxL ret] rm) (fun a U => a = argsL.toArray ∧ Z.Warmed39 U.vm ∧ U.heap = h) (fun _ _ _ _ _ => True) (fun _ U o U' => ∃ v L, o = .returned v ∧ Q v U'.heap L ∧ FrameEnd U o U' L rm.cells rm.slots))
    (eT : T.heap = h) (hg : g.method = m) (hsize : g.locals.size = c.maxLocals) (hlen : ∀ sig, parseMethodDescriptor y.desc = some sig → argsL.length = sig.parameters.length) (hstack : g.stack = argsL.reverse ++ rest) {W : Nat} (hW : 2 * g.monitorRoom + (rest.map fun v => v.category).sum ≤ W)
    (hd : decode c.code g.pc = .ok (.invokestatic index, 3)) (hf : rm.frames + 1 ≤ R.frames) (hl : W + (maxL + 11) + rm.locals ≤ R.locals) (hc : cells + rm.cells ≤ R.cells) (hs : slots + rm.slots ≤ R.slots) :
    ∃ v T' L h', Stand p l e R s m args below meth c T' (locs ++ L) (cells + rm.cells) (slots + rm.slots) ∧ T'.heap = h' ∧ Q v h' L ∧ Steps p.tables e below (T.setTop g) (T'.setTop { g with pc := g.pc + 3, stack := v.toList ++ rest }) := by
  obtain ⟨v, _, ⟨T1, L1, k1, n1⟩, -, X1, ⟨Lc, hQ, l1, y1, z1⟩, st⟩ := Jvm.LawKit.callS X hx (y := y) hown (mvT hZ w1) (mvT hZ w2) (mvT hZ w3) (mvT hZ w4) hy (backOf (rm := rm) (W := W) hM hZ w4 w3 hf hl) (g := g) hg hsize (argsL := argsL) (rest := rest) hlen hstack hW hd (fun _ _ => ⟨rfl, eT, hc, hs⟩)
  dsimp only [Pt.U, Pt.locs, Pt.cells, Pt.slots] at X1 l1 y1 z1 st hQ
  subst l1 y1 z1
  exact ⟨v, T1, Lc, _, X1, rfl, hQ, st _ (Steps.refl _)⟩
theorem own_callV (X : Stand p l e R s m args below meth c T locs cells slots) (hx : p.tables.exec = Jvm.exec) (hZ : Z.Warmed39 s.vm) {own : String} {index : Nat} {y : MethodName} {bytes : ByteArray} {maxL : Nat} {ret : Option FieldType} {rm : Room} {Q : Option Value → Heap → List Loc → Prop} {argsL rest : List Value} {g : JFrame}
    (hown : s.vm.findClass own = some m.cls) (w1 : (Cond.methodLink own index y).before a0 Z = true) (w2 : (Cond.declares y).before a0 Z = true) (w3 : (Cond.selects C y y).before a0 Z = true) (w4 : (Cond.instanceMethod y).before a0 Z = true) (w5 : (Cond.code y bytes maxL ret).before a0 Z = true) (w6 : (Cond.initialized y.cls).before a0 Z = true)
    (hy : y.cls ≠ "java/lang/invoke/MethodHandle" ∧ y.cls ≠ "java/lang/invoke/VarHandle") (E : Exa Z h b C)
    (hM : MetFree l y (head1 [Cond.code y bytes maxL ret] rm) (fun a U => a = (.ref b :: argsL).toArray ∧ Z.Warmed39 U.vm ∧ U.heap = h) (fun _ _ _ _ _ => True) (fun _ U o U' => ∃ v L, o = .returned v ∧ Q v U'.heap L ∧ FrameEnd U o U' L rm.cells rm.slots))
    (eT : T.heap = h) (hg : g.method = m) (hsize : g.locals.size = c.maxLocals) (hlen : ∀ sig, parseMethodDescriptor y.desc = some sig → argsL.length = sig.parameters.length) (hstack : g.stack = argsL.reverse ++ .ref b :: rest) {W : Nat} (hW : 2 * g.monitorRoom + (rest.map fun v => v.category).sum ≤ W)
    (hd : decode c.code g.pc = .ok (.invokevirtual index, 3)) (hf : rm.frames + 1 ≤ R.frames) (hl : W + (maxL + 11) + rm.locals ≤ R.locals) (hc : cells + rm.cells ≤ R.cells) (hs : slots + rm.slots ≤ R.slots) :
    ∃ v T' L h', Stand p l e R s m args below meth c T' (locs ++ L) (cells + rm.cells) (slots + rm.slots) ∧ T'.heap = h' ∧ Q v h' L ∧ Steps p.tables e below (T.setTop g) (T'.setTop { g with pc := g.pc + 3, stack := v.toList ++ rest }) := by
  obtain ⟨cq, kq, qa, qb, qc⟩ := isOf hZ eT E
  obtain ⟨v, _, ⟨T1, L1, k1, n1⟩, -, X1, ⟨Lc, hQ, l1, y1, z1⟩, st⟩ := X.virtualBack hx (y := y) (z := y) hown (mvT hZ w1) (mvT hZ w2) (notFace_of_selects (args := #[]) (mvT hZ w3)) (mvT hZ w3) (mvT hZ w4) hy (backOf (rm := rm) (W := W) hM hZ w5 w6 hf hl) qa qc (g := g) hg hsize (Steps.refl _) (argsL := argsL) (rest := rest) hlen hstack hW hd (fun _ _ => ⟨rfl, eT, hc, hs⟩)
  dsimp only [Pt.U, Pt.locs, Pt.cells, Pt.slots] at X1 l1 y1 z1 st hQ
  subst l1 y1 z1
  exact ⟨v, T1, Lc, _, X1, rfl, hQ, st⟩
theorem own_callI (X : Stand p l e R s m args below meth c T locs cells slots) (hx : p.tables.exec = Jvm.exec) (hZ : Z.Warmed39 s.vm) {own : String} {index : Nat} {y : MethodName} {bytes : ByteArray} {maxL : Nat} {rm : Room} {Q : Option Value → Heap → List Loc → Prop} {argsL rest : List Value} {g : JFrame} (hy1 : y.name = "<init>")
    (hown : s.vm.findClass own = some m.cls) (w1 : (Cond.methodLink own index y).before a0 Z = true) (w2 : (Cond.instanceMethod y).before a0 Z = true) (w3 : (Cond.code y bytes maxL none).before a0 Z = true) (w4 : (Cond.initialized y.cls).before a0 Z = true)
    (hy : y.cls ≠ "java/lang/invoke/MethodHandle" ∧ y.cls ≠ "java/lang/invoke/VarHandle")
    (hM : MetFree l y (head1 [Cond.code y bytes maxL none] rm) (fun a U => a = (.ref b :: argsL).toArray ∧ Z.Warmed39 U.vm ∧ U.heap = h) (fun _ _ _ _ _ => True) (fun _ U o U' => ∃ v L, o = .returned v ∧ Q v U'.heap L ∧ FrameEnd U o U' L rm.cells rm.slots))
    (eT : T.heap = h) (hg : g.method = m) (hsize : g.locals.size = c.maxLocals) (hlen : ∀ sig, parseMethodDescriptor y.desc = some sig → argsL.length = sig.parameters.length) (hstack : g.stack = argsL.reverse ++ .ref b :: rest) {W : Nat} (hW : 2 * g.monitorRoom + (rest.map fun v => v.category).sum ≤ W)
    (hd : decode c.code g.pc = .ok (.invokespecial index, 3)) (hf : rm.frames + 1 ≤ R.frames) (hl : W + (maxL + 11) + rm.locals ≤ R.locals) (hc : cells + rm.cells ≤ R.cells) (hs : slots + rm.slots ≤ R.slots) :
    ∃ v T' L h', Stand p l e R s m args below meth c T' (locs ++ L) (cells + rm.cells) (slots + rm.slots) ∧ T'.heap = h' ∧ Q v h' L ∧ Steps p.tables e below (T.setTop g) (T'.setTop { g with pc := g.pc + 3, stack := v.toList ++ rest }) := by
  obtain ⟨v, _, ⟨T1, L1, k1, n1⟩, -, X1, ⟨Lc, hQ, l1, y1, z1⟩, st⟩ := X.specialBack hx (y := y) hy1 hown (mvT hZ w1) (mvT hZ w2) (mvT hZ w3) hy (backOf (rm := rm) (W := W) hM hZ w3 w4 hf hl) (g := g) hg hsize (Steps.refl _) (a := b) (argsL := argsL) (rest := rest) hlen hstack hW hd (fun _ _ => ⟨rfl, eT, hc, hs⟩)
  dsimp only [Pt.U, Pt.locs, Pt.cells, Pt.slots] at X1 l1 y1 z1 st hQ
  subst l1 y1 z1
  exact ⟨v, T1, Lc, _, X1, rfl, hQ, st⟩
end Own2
section Own3
variable {p : Program} {l : Launch} {e : Env} {R : Room} {s : State} {m : MethodId} {args : Array Value} {below : List Frame} {meth : Method} {c : Code} {T : State} {locs : List Loc} {cells slots : Nat} {Z : State} {a0 : Array Value} {h h' : Heap} {a b : Addr} {C : String}
/-- a call of an instance method that writes nothing -/
theorem own_callR (X : Stand p l e R s m args below meth c T locs cells slots) (hx : p.tables.exec = Jvm.exec) (hZ : Z.Warmed39 s.vm) {own : String} {index : Nat} {y : MethodName} {bytes : ByteArray} {maxL : Nat} {ret : Option FieldType} {fr lo : Nat} {r : Value} {argsL rest : List Value} {g : JFrame}
    (hown : s.vm.findClass own = some m.cls) (w1 : (Cond.methodLink own index y).before a0 Z = true) (w2 : (Cond.declares y).before a0 Z = true) (w3 : (Cond.selects C y y).before a0 Z = true) (w4 : (Cond.instanceMethod y).before a0 Z = true) (w5 : (Cond.code y bytes maxL ret).before a0 Z = true) (w6 : (Cond.initialized y.cls).before a0 Z = true)
    (hy : y.cls ≠ "java/lang/invoke/MethodHandle" ∧ y.cls ≠ "java/lang/invoke/VarHandle") (E : Exa Z h b C)
    (hM : MetFree l y (head1 [Cond.code y bytes maxL ret] ({ frames := fr, cells := 0, slots := 0, locals := lo } : Room)) (fun a U => a = (.ref b :: argsL).toArray ∧ Z.Warmed39 U.vm ∧ U.heap = h) (fun _ _ _ _ _ => True) (fun _ U o U' => ∃ v L, o = .returned v ∧ QP r h v U'.heap L ∧ FrameEnd U o U' L 0 0))
    (eT : T.heap = h) (hg : g.method = m) (hsize : g.locals.size = c.maxLocals) (hlen : ∀ sig, parseMethodDescriptor y.desc = some sig → argsL.length = sig.parameters.length) (hstack : g.stack = argsL.reverse ++ .ref b :: rest) {W : Nat} (hW : 2 * g.monitorRoom + (rest.map fun v => v.category).sum ≤ W)
    (hd : decode c.code g.pc = .ok (.invokevirtual index, 3)) (hf : fr + 1 ≤ R.frames) (hl : W + (maxL + 11) + lo ≤ R.locals) (hc : cells ≤ R.cells) (hs : slots ≤ R.slots) :
    ∃ T', Stand p l e R s m args below meth c T' locs cells slots ∧ T'.heap = h ∧ ∀ target, Steps p.tables e below (T'.setTop { g with pc := g.pc + 3, stack := r :: rest }) target → Steps p.tables e below (T.setTop g) target := by
  obtain ⟨v, T1, L1, h1, X1, e1, ⟨rfl, rfl, q⟩, st⟩ := own_callV X hx hZ hown w1 w2 w3 w4 w5 w6 hy E (rm := ({ frames := fr, cells := 0, slots := 0, locals := lo } : Room)) hM eT hg hsize hlen hstack hW hd hf hl hc hs
  rw [List.append_nil] at X1
  exact ⟨T1, X1, e1.trans q, fun t k => st.trans k⟩
/-- a call of a private instance method by its contract -/
theorem own_callX (X : Stand p l e R s m args below meth c T locs cells slots) (hx : p.tables.exec = Jvm.exec) (hZ : Z.Warmed39 s.vm) {own : String} {index : Nat} {y : MethodName} {bytes : ByteArray} {maxL kk : Nat} {ret : Option FieldType} {rm : Room} {Q : Option Value → Heap → List Loc → Prop} {argsL rest : List Value} {g : JFrame}
    (hown : s.vm.findClass own = some m.cls) (w1 : (Cond.methodLink own index y).before a0 Z = true) (w2 : (Cond.instanceMethod y).before a0 Z = true) (w3 : (Cond.privateMethod y).before a0 Z = true) (w4 : (Cond.code y bytes maxL ret).before a0 Z = true) (w5 : (Cond.initialized y.cls).before a0 Z = true) (w6 : (Cond.instantiable y.cls kk).before a0 Z = true)
    (hy : y.cls ≠ "java/lang/invoke/MethodHandle" ∧ y.cls ≠ "java/lang/invoke/VarHandle") (E : Exa Z h b C)
    (hM : MetFree l y (head1 [Cond.code y bytes maxL ret] rm) (fun a U => a = (.ref b :: argsL).toArray ∧ Z.Warmed39 U.vm ∧ U.heap = h) (fun _ _ _ _ _ => True) (fun _ U o U' => ∃ v L, o = .returned v ∧ Q v U'.heap L ∧ FrameEnd U o U' L rm.cells rm.slots))
    (eT : T.heap = h) (hg : g.method = m) (hsize : g.locals.size = c.maxLocals) (hlen : ∀ sig, parseMethodDescriptor y.desc = some sig → argsL.length = sig.parameters.length) (hstack : g.stack = argsL.reverse ++ .ref b :: rest) {W : Nat} (hW : 2 * g.monitorRoom + (rest.map fun v => v.category).sum ≤ W)
    (hd : decode c.code g.pc = .ok (.invokevirtual index, 3)) (hf : rm.frames + 1 ≤ R.frames) (hl : W + (maxL + 11) + rm.locals ≤ R.locals) (hc : cells + rm.cells ≤ R.cells) (hs : slots + rm.slots ≤ R.slots) :
    ∃ v T' L h', Stand p l e R s m args below meth c T' (locs ++ L) (cells + rm.cells) (slots + rm.slots) ∧ T'.heap = h' ∧ Q v h' L ∧ Steps p.tables e below (T.setTop g) (T'.setTop { g with pc := g.pc + 3, stack := v.toList ++ rest }) := by
  have v2 : (Cond.instanceMethod y).before args s = true := mvT hZ w2
  have v4 : (Cond.code y bytes maxL ret).before args s = true := mvT hZ w4
  have v6 : (Cond.instantiable y.cls kk).before args s = true := mv hZ w6
  obtain ⟨mk, me, n1, n2, n3, n4⟩ := Cond.instanceMethod_spec v2
  obtain ⟨me', cM, n5, -, -, -, -, -, -, n6⟩ := Cond.code_spec n1 v4
  cases n2.symm.trans n5
  obtain ⟨cI, kI, i1, i2, -, i4, -⟩ := Cond.instantiable_spec v6
  cases (findClass_of_methodNamed n1).symm.trans i1
  have ni : kI.isInterface = false := by simp only [Bool.or_eq_false_iff] at i4; exact i4.1
  obtain ⟨cell, c1, c2⟩ := E.cell
  have pr := Cond.privateMethod_at (mvP hZ w3 (args := args)) mk me n1 n2
  obtain ⟨vm₁, X₁, s₁⟩ := X.invokevirtual hx hown (mvT hZ w1) n1 n2 n3 i2 ni hy (a := b) (cell := cell) (by rw [eT]; exact c1) c2 (selectMethod_private n2 pr) n2 n4 i2 ni (g := g) hg (argsL := argsL) (rest := rest) (hlen _ n6) hstack hd
  obtain ⟨v, ⟨T1, L1, k1, n1'⟩, X1, ⟨Lc, hQ, l1, y1, z1⟩, st⟩ := backOf (rm := rm) (W := W) hM hZ w4 w5 hf hl m meth c ⟨T.setVm vm₁, locs, cells, slots⟩ { g with stack := rest } (.invokevirtual index) mk (.ref b :: argsL).toArray X₁ hg hsize hd hW (X₁.named n1) ⟨rfl, eT, hc, hs⟩
  dsimp only [Pt.U, Pt.locs, Pt.cells, Pt.slots] at X1 l1 y1 z1 st hQ
  subst l1 y1 z1
  exact ⟨v, T1, Lc, _, X1, rfl, hQ, (s₁ _ fun acts => by rw [doInvoke_state]; exact Steps.refl _).trans st⟩
theorem own_callXR (X : Stand p l e R s m args below meth c T locs cells slots) (hx : p.tables.exec = Jvm.exec) (hZ : Z.Warmed39 s.vm) {own : String} {index : Nat} {y : MethodName} {bytes : ByteArray} {maxL kk : Nat} {ret : Option FieldType} {fr lo : Nat} {r : Value} {argsL rest : List Value} {g : JFrame}
    (hown : s.vm.findClass own = some m.cls) (w1 : (Cond.methodLink own index y).before a0 Z = true) (w2 : (Cond.instanceMethod y).before a0 Z = true) (w3 : (Cond.privateMethod y).before a0 Z = true) (w4 : (Cond.code y bytes maxL ret).before a0 Z = true) (w5 : (Cond.initialized y.cls).before a0 Z = true) (w6 : (Cond.instantiable y.cls kk).before a0 Z = true)
    (hy : y.cls ≠ "java/lang/invoke/MethodHandle" ∧ y.cls ≠ "java/lang/invoke/VarHandle") (E : Exa Z h b C)
    (hM : MetFree l y (head1 [Cond.code y bytes maxL ret] ({ frames := fr, cells := 0, slots := 0, locals := lo } : Room)) (fun a U => a = (.ref b :: argsL).toArray ∧ Z.Warmed39 U.vm ∧ U.heap = h) (fun _ _ _ _ _ => True) (fun _ U o U' => ∃ v L, o = .returned v ∧ QP r h v U'.heap L ∧ FrameEnd U o U' L 0 0))
    (eT : T.heap = h) (hg : g.method = m) (hsize : g.locals.size = c.maxLocals) (hlen : ∀ sig, parseMethodDescriptor y.desc = some sig → argsL.length = sig.parameters.length) (hstack : g.stack = argsL.reverse ++ .ref b :: rest) {W : Nat} (hW : 2 * g.monitorRoom + (rest.map fun v => v.category).sum ≤ W)
    (hd : decode c.code g.pc = .ok (.invokevirtual index, 3)) (hf : fr + 1 ≤ R.frames) (hl : W + (maxL + 11) + lo ≤ R.locals) (hc : cells ≤ R.cells) (hs : slots ≤ R.slots) :
    ∃ T', Stand p l e R s m args below meth c T' locs cells slots ∧ T'.heap = h ∧ ∀ target, Steps p.tables e below (T'.setTop { g with pc := g.pc + 3, stack := r :: rest }) target → Steps p.tables e below (T.setTop g) target := by
  obtain ⟨v, T1, L1, h1, X1, e1, ⟨rfl, rfl, q⟩, st⟩ := own_callX X hx hZ hown w1 w2 w3 w4 w5 w6 hy E (rm := ({ frames := fr, cells := 0, slots := 0, locals := lo } : Room)) hM eT hg hsize hlen hstack hW hd hf hl hc hs
  rw [List.append_nil] at X1
  exact ⟨T1, X1, e1.trans q, fun t k => st.trans k⟩
end Own3
theorem pd_prV : parseMethodDescriptor "()V" = some ⟨[], none⟩ := by decide +kernel
theorem pd_pBrV : parseMethodDescriptor "(B)V" = some ⟨[.byte], none⟩ := by decide +kernel
theorem pd_pIrV : parseMethodDescriptor "(I)V" = some ⟨[.int], none⟩ := by decide +kernel
theorem pd_pJrJ : parseMethodDescriptor "(J)J" = some ⟨[.long], some .long⟩ := by decide +kernel
theorem pd_pJrV : parseMethodDescriptor "(J)V" = some ⟨[.long], none⟩ := by decide +kernel
def wrs (f : Nat → Int32) (k : Nat) (bs : List Int32) (i : Nat) : Int32 := if k ≤ i ∧ i < k + bs.length then bs.getD (i - k) 0 else f i
def Enc : Nat → List Int32 → Prop
  | _, [] => False
  | v, b :: bs => (v < 128 ∧ b.toInt = (v : Int) ∧ bs = []) ∨ (128 ≤ v ∧ b.toInt = ((v % 128 : Nat) : Int) - 128 ∧ Enc (v / 128) bs)
theorem own_ne16 {sz : Int32} {k : Nat} (hk : sz.toInt = (k : Int)) (hlt : k < 16) : ¬ sz = (16 : Int32) := by
  intro q
  have : (16 : Int32).toInt = 16 := by decide
  rw [q, this] at hk
  omega
theorem wrs_snoc (f : Nat → Int32) (k : Nat) (pre : List Int32) (b : Int32) : updI (wrs f k pre) (k + pre.length) b = wrs f k (pre ++ [b]) := by
  funext i
  simp only [updI, wrs, List.length_append, List.length_singleton]
  by_cases h1 : i = k + pre.length
  · subst h1
    rw [if_pos rfl, if_pos (by omega)]
    simp [List.getD, List.getElem?_append]
  · rw [if_neg h1]
    by_cases h2 : k ≤ i ∧ i < k + pre.length
    · rw [if_pos h2, if_pos (by omega)]
      simp only [List.getD]
      rw [List.getElem?_append_left (by omega)]
    · rw [if_neg h2, if_neg (by omega)]
theorem put_sz {cz : Int32} {k n : Nat} (h : cz.toInt = ((k + n : Nat) : Int)) (hl : k + n < 16) {b : Int32} {pre : List Int32} (hn : pre.length = n := by rfl) : (cz + (1 : Int32)).toInt = ((k + (pre ++ [b]).length : Nat) : Int) := by
  have h1 : (1 : Int32).toInt = 1 := by decide
  have h2 := c_iadd cz 1
  have h3 := rng32 (cz + 1)
  rw [List.length_append, List.length_singleton, hn]
  omega
theorem put_sz' {cz : Int32} {k n : Nat} (h : cz.toInt = ((k + n : Nat) : Int)) (hl : k + n < 16) {b : Int32} {pre : List Int32} (hn : pre.length = n := by rfl) : (cz + (1 : Int32)).toInt = ((k + (pre ++ [b]).length : Nat) : Int) := put_sz h hl hn
theorem put_len {pre : List Int32} {b : Int32} (h : pre.length + 1 ≤ 5) : (pre ++ [b]).length ≤ 5 := by simp; omega
theorem lt128 {cv : Int64} {u : Nat} (h : cv.toInt = (u : Int)) (hu : u < 128) : cv < (128 : Int64) := by
  have : (128 : Int64).toInt = 128 := by decide
  rw [Int64.lt_iff_toInt_lt, this]; omega
theorem lt128' {cv : Int64} {u : Nat} (h : cv.toInt = (u : Int)) (hu : cv < (128 : Int64)) : u < 128 := by
  have : (128 : Int64).toInt = 128 := by decide
  rw [Int64.lt_iff_toInt_lt, this] at hu; omega
theorem ge128 {cv : Int64} {u : Nat} (h : cv.toInt = (u : Int)) (hu : ¬ cv < (128 : Int64)) : 128 ≤ u := by
  have : (128 : Int64).toInt = 128 := by decide
  rw [Int64.lt_iff_toInt_lt, this] at hu; omega
theorem ush7 {cv : Int64} {u : Nat} (h : cv.toInt = (u : Int)) : ((cv.toUInt64 >>> ((7 : Int32) &&& 0x3f).toInt64.toUInt64).toInt64).toInt = ((u / 128 : Nat) : Int) := by
  have h1 := c_lushr cv 7 7 (by decide) (by decide)
  have h2 := rng64 cv
  omega
theorem enc_last {cv : Int64} {u : Nat} (h : cv.toInt = (u : Int)) (hu : u < 128) : Enc u [nar .byte ((cv.toInt32).toInt8.toInt32)] := by
  have h1 := c_l2i cv
  have h2 := c_i2b cv.toInt32
  have h3 := c_i2b (cv.toInt32.toInt8.toInt32)
  refine Or.inl ⟨hu, ?_, rfl⟩
  show (cv.toInt32.toInt8.toInt32.toInt8.toInt32).toInt = _
  omega
theorem or128 (x : Int64) : (x ||| (128 : Int64)).toInt % 256 = x.toInt % 128 + 128 := by
  have h1 := c_maskL (x ||| (128 : Int64)) 255 8 (by decide) (by decide)
  have h2 := c_maskL x 127 7 (by decide) (by decide)
  have e : ((x ||| (128 : Int64)) &&& 255) = ((128 : Int64) ||| (x &&& 127)) := by
    apply Int64.toBitVec.inj
    have key : ∀ i : Fin 64, ∀ b : Bool, ((b || (128#64).getLsbD i.val) && (255#64).getLsbD i.val) = ((128#64).getLsbD i.val || (b && (127#64).getLsbD i.val)) := by decide
    show ((x.toBitVec ||| 128#64) &&& 255#64) = (128#64 ||| (x.toBitVec &&& 127#64))
    apply BitVec.eq_of_getLsbD_eq
    intro i hi
    simp only [BitVec.getLsbD_and, BitVec.getLsbD_or]
    exact key ⟨i, hi⟩ _
  have h3 := c_orL 128 (x &&& 127) 7 (by decide) 128 (by decide) (by decide) (by omega) (by omega)
  have h4 := rng64 ((128 : Int64) ||| (x &&& 127))
  have h5 : (128 : Int64).toInt = 128 := by decide
  rw [e] at h1
  omega
theorem enc_more {cv : Int64} {u : Nat} {bs : List Int32} (h : cv.toInt = (u : Int)) (hu : 128 ≤ u) (hb : Enc (u / 128) bs) : Enc u ([nar .byte (((cv ||| (128 : Int64)).toInt32).toInt8.toInt32)] ++ bs) := by
  have h0 := or128 cv
  have h1 := c_l2i (cv ||| (128 : Int64))
  have h2 := c_i2b (cv ||| (128 : Int64)).toInt32
  have h3 := c_i2b ((cv ||| (128 : Int64)).toInt32.toInt8.toInt32)
  refine Or.inr ⟨hu, ?_, hb⟩
  show ((cv ||| (128 : Int64)).toInt32.toInt8.toInt32.toInt8.toInt32).toInt = _
  omega
theorem twice {ln : Int32} {u : Nat} (h : ln.toInt = (u : Int)) (hu : u < 2147483648) : ((2 : Int64) * (ln.toInt64)).toInt = ((2 * u : Nat) : Int) := by
  have h1 := c_i2l ln
  have h2 := c_lmul 2 ln.toInt64
  have h3 := rng64 ((2 : Int64) * ln.toInt64)
  have h4 : (2 : Int64).toInt = 2 := by decide
  rw [h4, h1, h] at h2
  omega
theorem byte_ge {b : Int32} {v : Nat} (h : b.toInt = (v : Int)) : ¬ b < (0 : Int32) := by
  have : (0 : Int32).toInt = 0 := by decide
  rw [Int32.lt_iff_toInt_lt, this]; omega
theorem byte_lt {b : Int32} {v : Nat} (h : b.toInt = ((v % 128 : Nat) : Int) - 128) : b < (0 : Int32) := by
  have : (0 : Int32).toInt = 0 := by decide
  rw [Int32.lt_iff_toInt_lt, this]; omega
theorem enc_pos : ∀ {v : Nat} {bs : List Int32}, Enc v bs → 0 < bs.length := by
  intro v bs h
  cases bs with
  | nil => exact absurd h (by simp [Enc])
  | cons b bs => simp
theorem enc_lt : ∀ {bs : List Int32} {v : Nat}, Enc v bs → bs.length ≤ 5 → v < 34359738368 := by
  have key : ∀ (bs : List Int32) (v : Nat), Enc v bs → v < 128 ^ bs.length := by
    intro bs
    induction bs with
    | nil => intro v h; exact absurd h (by simp [Enc])
    | cons b bs ih =>
      intro v h
      rcases h with ⟨h1, -, rfl⟩ | ⟨h1, -, h3⟩
      · simpa using h1
      · have := ih _ h3
        rw [List.length_cons, Nat.pow_succ]
        omega
  intro bs v h hl
  have h1 := key bs v h
  have h2 : 128 ^ bs.length ≤ 128 ^ 5 := Nat.pow_le_pow_right (by decide) hl
  omega
def EncAt (f : Nat → Int32) : Nat → List Nat → Nat → Prop
  | i, [], k => i = k
  | i, v :: vs, k => ∃ bs : List Int32, Enc v bs ∧ bs.length ≤ 5 ∧ (∀ j, j < bs.length → f (i + j) = bs.getD j 0) ∧ EncAt f (i + bs.length) vs k
theorem encat_le {f : Nat → Int32} : ∀ {vs : List Nat} {i k : Nat}, EncAt f i vs k → i ≤ k := by
  intro vs
  induction vs with
  | nil => intro i k h; exact Nat.le_of_eq h
  | cons v vs ih =>
    intro i k h
    obtain ⟨bs, -, -, -, h⟩ := h
    have := ih h
    omega
def hf (v : Nat) : Int64 := Int64.ofNat (v / 2)
def scanF : List Nat → Int64 → Int64 → Int64 → Int64 → Int64
  | [], at_, _, _, em => at_ + (em * (4 : Int64))
  | v :: vs, at_, bf_, of, em => if v % 2 = 1 then scanF vs (at_ + (hf v * (4 : Int64))) bf_ of em else if of < (bf_ + hf v) then (((at_ + (4 : Int64)) + of) - bf_) else scanF vs (at_ + ((4 : Int64) + hf v)) (bf_ + hf v) of em
theorem scan_odd {v : Nat} {vs : List Nat} {at_ bf_ of em : Int64} (h : v % 2 = 1) : scanF (v :: vs) at_ bf_ of em = scanF vs (at_ + (hf v * (4 : Int64))) bf_ of em := by rw [scanF, if_pos h]
theorem scan_hit {v : Nat} {vs : List Nat} {at_ bf_ of em : Int64} (h : ¬ v % 2 = 1) (h2 : of < (bf_ + hf v)) : scanF (v :: vs) at_ bf_ of em = (((at_ + (4 : Int64)) + of) - bf_) := by rw [scanF, if_neg h, if_pos h2]
theorem scan_even {v : Nat} {vs : List Nat} {at_ bf_ of em : Int64} (h : ¬ v % 2 = 1) (h2 : ¬ of < (bf_ + hf v)) : scanF (v :: vs) at_ bf_ of em = scanF vs (at_ + ((4 : Int64) + hf v)) (bf_ + hf v) of em := by rw [scanF, if_neg h, if_neg h2]
theorem hf_toInt {v : Nat} (h : v < 34359738368) : (hf v).toInt = ((v / 2 : Nat) : Int) := by
  have h1 : (Int64.ofNat (v / 2)).toInt = ((v / 2 : Nat) : Int).bmod (2 ^ 64) := Int64.toInt_ofNat'
  have h2 := bm64 ((v / 2 : Nat) : Int)
  have h3 := rng64 (Int64.ofNat (v / 2))
  rw [hf]
  rw [h1] at h3 ⊢
  omega
theorem half {vx : Int64} {v : Nat} (h : vx.toInt = (v : Int)) (hv : v < 34359738368) : ((vx.toUInt64 >>> ((1 : Int32) &&& 0x3f).toInt64.toUInt64).toInt64) = hf v := by
  apply Int64.toInt_inj.mp
  have h1 := c_lushr vx 1 1 (by decide) (by decide)
  rw [hf_toInt hv, h1]
  omega
theorem odd_of {vx : Int64} {v : Nat} (h : vx.toInt = (v : Int)) (h2 : ¬ (vx &&& (1 : Int64)) = (0 : Int64)) : v % 2 = 1 := by
  have h1 := c_maskL vx 1 1 (by decide) (by decide)
  have h0 : (0 : Int64).toInt = 0 := by decide
  rw [← Int64.toInt_inj, h1, h0] at h2
  omega
theorem even_of {vx : Int64} {v : Nat} (h : vx.toInt = (v : Int)) (h2 : (vx &&& (1 : Int64)) = (0 : Int64)) : ¬ v % 2 = 1 := by
  have h1 := c_maskL vx 1 1 (by decide) (by decide)
  have h0 : (0 : Int64).toInt = 0 := by decide
  rw [← Int64.toInt_inj, h1, h0] at h2
  omega
theorem at_end {ii sz : Int32} {i k : Nat} (h1 : ii.toInt = (i : Int)) (h2 : sz.toInt = (k : Int)) (h : i = k) : ¬ ii < sz := by rw [Int32.lt_iff_toInt_lt]; omega
theorem not_end {ii sz : Int32} {i k : Nat} (h1 : ii.toInt = (i : Int)) (h2 : sz.toInt = (k : Int)) (h : i < k) : ii < sz := by rw [Int32.lt_iff_toInt_lt]; omega
theorem inc_mid {ij : Int32} {pj : Nat} (h : ij.toInt = (pj : Int)) (hb : pj < 2147483647) : (ij + (1 : Int32)).toInt = ((pj + 1 : Nat) : Int) := by
  have h1 := c_iadd ij 1
  have h2 := rng32 (ij + 1)
  have h3 : (1 : Int32).toInt = 1 := by decide
  omega
theorem inc_last {ij : Int32} {pj pe : Nat} {b0 : Int32} (h : ij.toInt = (pj : Int)) (hb : pj < 2147483647) (he : pj + [b0].length = pe) : (ij + (1 : Int32)).toInt = ((pe : Nat) : Int) := by
  rw [inc_mid h hb, ← he]; rfl
theorem sh_mid {sh : Int32} {sk : Nat} (h : sh.toInt = (sk : Int)) (hb : sk ≤ 28) : (sh + (7 : Int32)).toInt = ((sk + 7 : Nat) : Int) := by
  have h1 := c_iadd sh 7
  have h2 := rng32 (sh + 7)
  have h3 : (7 : Int32).toInt = 7 := by decide
  omega
theorem low_mid {low u sk : Nat} (h : low < 2 ^ sk) : low + (u % 128) * 2 ^ sk < 2 ^ (sk + 7) := by
  rw [Nat.pow_add]
  have : u % 128 ≤ 127 := by omega
  have := Nat.mul_le_mul_right (2 ^ sk) this
  omega
theorem dec_V {V0 low u sk : Nat} (h : V0 = low + u * 2 ^ sk) : V0 = low + (u % 128) * 2 ^ sk + (u / 128) * 2 ^ (sk + 7) := by
  have e : u % 128 + 128 * (u / 128) = u := by omega
  have e1 : (u % 128 + 128 * (u / 128)) * 2 ^ sk = (u % 128) * 2 ^ sk + (u / 128) * (2 ^ sk * 2 ^ 7) := by
    rw [Nat.add_mul, Nat.mul_comm 128, Nat.mul_assoc, Nat.mul_comm 128]
  rw [e] at e1
  rw [h, e1, Nat.pow_add, Nat.add_assoc]
theorem wrs_nil (f : Nat → Int32) (k : Nat) : f = wrs f k [] := by
  funext i
  rw [wrs, if_neg (by simp only [List.length_nil]; omega)]
theorem dec_chunk {vl : Int64} {sh b : Int32} {low sk r : Nat} (hval : vl.toInt = (low : Int)) (hsh : sh.toInt = (sk : Int)) (hlow : low < 2 ^ sk) (hs : sk ≤ 28) (hb : (b &&& (127 : Int32)).toInt = (r : Int)) (hr : r < 128) : (vl ||| (((b &&& (127 : Int32)).toInt64) <<< (sh &&& 0x3f).toInt64)).toInt = ((low + r * 2 ^ sk : Nat) : Int) := by
  have hP : (2 : Nat) ^ sk ≤ 2 ^ 28 := Nat.pow_le_pow_right (by decide) hs
  have hM : r * 2 ^ sk ≤ 127 * 2 ^ 28 := Nat.mul_le_mul (by omega) hP
  have hk : sh.toBitVec.toNat % 64 = sk := by
    have h1 : sh.toInt = sh.toBitVec.toInt := rfl
    rw [BitVec.toInt_eq_toNat_cond] at h1
    have h2 := sh.toBitVec.isLt
    split at h1 <;> omega
  have h1 := c_lshl ((b &&& (127 : Int32)).toInt64) sh sk hk
  have h2 := rng64 (((b &&& (127 : Int32)).toInt64) <<< (sh &&& 0x3f).toInt64)
  rw [c_i2l, hb] at h1
  obtain ⟨a, ea⟩ : ∃ a, a = (((b &&& (127 : Int32)).toInt64) <<< (sh &&& 0x3f).toInt64) := ⟨_, rfl⟩
  rw [← ea] at h1 h2 ⊢
  have e1 : (r : Int) * ((2 ^ sk : Nat) : Int) = ((r * 2 ^ sk : Nat) : Int) := by simp
  rw [e1] at h1
  have h3 : a.toInt = ((r * 2 ^ sk : Nat) : Int) := by omega
  have h4 := c_orL' vl a sk (by omega) ((2 ^ sk : Nat) : Int) rfl (by rw [h3, ← e1]; exact Int.mul_emod_left _ _) (by omega) (by omega)
  have h5 := rng64 (vl ||| a)
  omega
theorem dec_mid {vl : Int64} {sh fb b0 : Int32} {low sk u : Nat} (hval : vl.toInt = (low : Int)) (hsh : sh.toInt = (sk : Int)) (hlow : low < 2 ^ sk) (hs : sk ≤ 28) (hf0 : fb = b0) (hb : b0.toInt = ((u % 128 : Nat) : Int) - 128) : (vl ||| (((fb &&& (127 : Int32)).toInt64) <<< (sh &&& 0x3f).toInt64)).toInt = ((low + (u % 128) * 2 ^ sk : Nat) : Int) := by
  have h1 := c_mask fb 127 7 (by decide) (by decide)
  subst hf0
  exact dec_chunk hval hsh hlow hs (by omega) (by omega)
theorem dec_last {vl : Int64} {sh fb b0 : Int32} {low sk u V0 : Nat} (hval : vl.toInt = (low : Int)) (hsh : sh.toInt = (sk : Int)) (hlow : low < 2 ^ sk) (hs : sk ≤ 28) (hf0 : fb = b0) (hb : b0.toInt = (u : Int)) (hu : u < 128) (hV : V0 = low + u * 2 ^ sk) : (vl ||| (((fb &&& (127 : Int32)).toInt64) <<< (sh &&& 0x3f).toInt64)).toInt = (V0 : Int) := by
  have h1 := c_mask fb 127 7 (by decide) (by decide)
  subst hf0
  rw [hV]
  exact dec_chunk hval hsh hlow hs (by omega) hu
def sch_fm : List (String × String) := [("entries", "[B"), ("start", "J"), ("size", "I"), ("empty", "J")]
theorem so_sch_fm {Z : State} {a0 : Array Value} (hw : ∀ d ∈ tables_1, d.before a0 Z = true) : SchOk Z a0 "com/example/fourfold/fourfold/xdr/FragmentMap" sch_fm := by
  refine ⟨fun q hq => ?_, by decide, by decide⟩
  simp only [sch_fm, List.mem_cons, List.not_mem_nil, or_false] at hq
  rcases hq with rfl | rfl | rfl | rfl
  · exact Or.inl (hw _ (List.mem_of_getElem? (i := 13) rfl))
  · exact Or.inl (hw _ (List.mem_of_getElem? (i := 20) rfl))
  · exact Or.inl (hw _ (List.mem_of_getElem? (i := 22) rfl))
  · exact Or.inl (hw _ (List.mem_of_getElem? (i := 24) rfl))
theorem d1_0 : decode prog_88_method_1_code 0 = .ok (.aload_n 0, 1) := by decide +kernel
theorem d1_1 : decode prog_88_method_1_code 1 = .ok (.invokespecial 1, 3) := by decide +kernel
theorem d1_4 : decode prog_88_method_1_code 4 = .ok (.aload_n 0, 1) := by decide +kernel
theorem d1_5 : decode prog_88_method_1_code 5 = .ok (.bipush 16, 2) := by decide +kernel
theorem d1_7 : decode prog_88_method_1_code 7 = .ok (.newarray .byte, 2) := by decide +kernel
theorem d1_9 : decode prog_88_method_1_code 9 = .ok (.putfield 7, 3) := by decide +kernel
theorem d1_12 : decode prog_88_method_1_code 12 = .ok (.return_, 1) := by decide +kernel
theorem pn_1 : plainName "com/example/fourfold/fourfold/xdr/FragmentMap" = true := by first | (simp [plainName, overriddenIn]; done) | decide +kernel
theorem ef_1 (m : MethodId) (x0 : Addr) : entryFrame m #[(.ref x0)] 1 = mkF m 0 #[.val (.ref x0)] [] := by first | (simp [entryFrame, mkF, argsToLocals, Value.category]; done) | rfl
def Q_init (Z : State) (a : Addr) (h0 : Heap) (n0 : Nat) (r : Option Value) (h : Heap) (L : List Loc) : Prop := r = none ∧ Fr n0 L ∧ Keep h0 h [a] ∧ ∃ b : Addr, h0.size ≤ b ∧ n0 ≤ b ∧ Obj Z h a "com/example/fourfold/fourfold/xdr/FragmentMap" sch_fm [(.ref b), (.long (0 : Int64)), (.int (0 : Int32)), (.long (0 : Int64))] ∧ FA Z h b .byte 16 (fun i => .int ((fun _ => (0 : Int32)) i))
set_option maxRecDepth 65536 in
set_option maxHeartbeats 40000000 in
theorem rm_init (l : Launch) (Z : State) (a0 : Array Value) (hw : ∀ d ∈ tables_1, d.before a0 Z = true) (ws : List Jvm.Cond) (a : Addr) (h0 : Heap) (n0 : Nat) (Z0 : n0 ≤ h0.size) (O0 : Obj Z h0 a "com/example/fourfold/fourfold/xdr/FragmentMap" sch_fm [.null, (.long (0 : Int64)), (.int (0 : Int32)), (.long (0 : Int64))]) (ga : n0 ≤ a) :
    MetFree l (⟨"com/example/fourfold/fourfold/xdr/FragmentMap", "<init>", "()V"⟩ : MethodName) (head1 (Jvm.Cond.code (⟨"com/example/fourfold/fourfold/xdr/FragmentMap", "<init>", "()V"⟩ : MethodName) prog_88_method_1_code 1 none :: ws) ({ frames := 1, cells := 1, slots := 16, locals := 12 } : Room)) (fun a_ U => a_ = #[(.ref a)] ∧ Z.Warmed39 U.vm ∧ U.heap = h0) (fun _ _ _ _ _ => True) (fun _ U o U' => ∃ v_ L_, o = .returned v_ ∧ Q_init Z a h0 n0 v_ U'.heap L_ ∧ FrameEnd U o U' L_ ({ frames := 1, cells := 1, slots := 16, locals := 12 } : Room).cells ({ frames := 1, cells := 1, slots := 16, locals := 12 } : Room).slots) := by
  refine MetFree.of_bodySF (plainFor_of_name pn_1) hisR ?_
  intro p e s m args below meth c s₁ Bd hml0 hP hK
  obtain ⟨rfl, hZ, hh⟩ := hP
  have hx := Bd.exec
  have hby := Bd.bytes
  have hlk : meth.locks = false := Bd.notSynchronized
  have hml : c.maxLocals = 1 := hml0
  have hown : s.vm.findClass "com/example/fourfold/fourfold/xdr/FragmentMap" = some m.cls := findClass_of_methodNamed Bd.named
  have hnm := (name_of_methodNamed Bd.named Bd.method).1
  have X0 : Stand p l e ({ frames := 1, cells := 1, slots := 16, locals := 12 } : Room) s m #[(.ref a)] below meth c s₁ [] 0 0 := Stand.of_body Bd
  have e0 : s₁.heap = h0 := by rw [← hh, Bd.state]; rfl
  have N0 := Fr.nil n0
  have K0 : Keep h0 h0 [a] := Keep.refl _ _
  show OEnds p e below s (Q_init Z a h0 n0) _ _ _
  refine own_by (fun t k => castTop (ef_1 m a) k) ?_
  show OEnds p e below s _ _ _ (s₁.setTop (mkF m 0 #[.val (.ref a)] []))
  refine own_by (fun _ k => XS.aloadN X0.here hx rfl (hb hby d1_0) rfl rfl k) ?_
  show OEnds p e below s _ _ _ (s₁.setTop (mkF m 1 #[.val (.ref a)] [(.ref a)]))
  obtain ⟨T1, X1, e1, st1⟩ := initO X0 hx hZ hown (hw _ (List.mem_of_getElem? (i := 8) rfl)) (hw _ (List.mem_of_getElem? (i := 9) rfl)) (hw _ (List.mem_of_getElem? (i := 10) rfl)) e0 (g := (mkF m 1 #[.val (.ref a)] [(.ref a)])) rfl (by rw [hml]; rfl) rfl (hb hby d1_1) (by decide) (W := 0) (by show 2 * 0 + _ ≤ _; exact Nat.le_of_eq rfl) (by decide)
  refine own_by (st1) ?_
  show OEnds p e below s _ _ _ (T1.setTop (mkF m 4 #[.val (.ref a)] []))
  refine own_by (fun _ k => XS.aloadN X1.here hx rfl (hb hby d1_4) rfl rfl k) ?_
  show OEnds p e below s _ _ _ (T1.setTop (mkF m 5 #[.val (.ref a)] [(.ref a)]))
  refine own_by (fun _ k => XS.bipush X1.here hx rfl (hb hby d1_5) k) ?_
  show OEnds p e below s _ _ _ (T1.setTop (mkF m 7 #[.val (.ref a)] [(.int (16 : Int32)), (.ref a)]))
  obtain ⟨T2, h2, k2, X2, e2, E2, A2, st2⟩ := newP X1 hx hZ (hw _ (List.mem_of_getElem? (i := 11) rfl)) e1 (g := (mkF m 7 #[.val (.ref a)] [(.int (16 : Int32)), (.ref a)])) rfl (hb hby d1_7) rfl (by decide) (cap := 16) (by decide) (by decide) (by decide) (by decide)
  obtain ⟨nb2, g2⟩ : ∃ z, z = h0.size := ⟨_, rfl⟩
  rw [← g2] at A2 st2
  refine own_by (st2) ?_
  have g_nb2 : n0 ≤ nb2 := Nat.le_trans Z0 (Nat.le_of_eq g2.symm)
  have sz_nb2 : h0.size ≤ nb2 := Nat.le_trans K0.1 (Nat.le_of_eq g2.symm)
  have K2 : Keep h0 h2 [a] := K0.ext E2
  have Z2 : n0 ≤ h2.size := Nat.le_trans Z0 E2.1
  have F2 : FA Z h2 nb2 .byte 16 (fun i => .int ((fun _ => (0 : Int32)) i)) := FA.new A2 (by decide) (by decide) rfl
  show OEnds p e below s _ _ _ (T2.setTop (mkF m 9 #[.val (.ref a)] [(.ref nb2), (.ref a)]))
  have O4 : Obj Z h2 a "com/example/fourfold/fourfold/xdr/FragmentMap" sch_fm [.null, (.long (0 : Int64)), (.int (0 : Int32)), (.long (0 : Int64))] := (O0.ext E2)
  obtain ⟨T3, h3, X3, e3, W3, st3⟩ := putF X2 hx hZ hown (host := "") (Or.inl (hw _ (List.mem_of_getElem? (i := 12) rfl))) Via.refl e2 (O4.fld 0 rfl rfl) O4.exa (Or.inl (hw _ (List.mem_of_getElem? (i := 13) rfl))) (hw _ (List.mem_of_getElem? (i := 3) rfl)) (ty := (.array .byte)) (by decide) rfl rfl (g := (mkF m 9 #[.val (.ref a)] [(.ref nb2), (.ref a)])) rfl rfl (hb hby d1_9)
  refine own_by (st3) ?_
  have O3 : Obj Z h3 a "com/example/fourfold/fourfold/xdr/FragmentMap" sch_fm [(.ref nb2), (.long (0 : Int64)), (.int (0 : Int32)), (.long (0 : Int64))] := O4.set (so_sch_fm hw) W3 0 rfl (Nat.le_of_ble_eq_true rfl)
  have N3 := Fr.snoc X3 N0 ga
  have Z3 : n0 ≤ h3.size := Nat.le_trans Z2 (Keep.of_wr W3).1
  have K3 : Keep h0 h3 [a] := K2.wr W3 (Or.inl (List.mem_of_getElem? (i := 0) rfl))
  show OEnds p e below s _ _ _ (T3.setTop (mkF m 12 #[.val (.ref a)] []))
  have F5 : FA Z h3 nb2 .byte 16 (fun i => .int ((fun _ => (0 : Int32)) i)) := (F2.other W3 (Ne.symm (Nat.ne_of_lt (Nat.lt_of_lt_of_le O0.lt (Nat.le_of_eq g2.symm)))))
  exact own_retV X3 hx hlk Bd.returns (hb hby d1_12) (by rw [e3]; exact ⟨rfl, N3, K3, nb2, sz_nb2, g_nb2, O3, F5⟩) (by decide) (by decide)
theorem d3_0 : decode prog_88_method_2_code 0 = .ok (.aload_n 0, 1) := by decide +kernel
theorem d3_1 : decode prog_88_method_2_code 1 = .ok (.lload_n 1, 1) := by decide +kernel
theorem d3_2 : decode prog_88_method_2_code 2 = .ok (.putfield 13, 3) := by decide +kernel
theorem d3_5 : decode prog_88_method_2_code 5 = .ok (.aload_n 0, 1) := by decide +kernel
theorem d3_6 : decode prog_88_method_2_code 6 = .ok (.iconst 0, 1) := by decide +kernel
theorem d3_7 : decode prog_88_method_2_code 7 = .ok (.putfield 17, 3) := by decide +kernel
theorem d3_10 : decode prog_88_method_2_code 10 = .ok (.aload_n 0, 1) := by decide +kernel
theorem d3_11 : decode prog_88_method_2_code 11 = .ok (.lconst 0, 1) := by decide +kernel
theorem d3_12 : decode prog_88_method_2_code 12 = .ok (.putfield 21, 3) := by decide +kernel
theorem d3_15 : decode prog_88_method_2_code 15 = .ok (.return_, 1) := by decide +kernel
theorem pn_3 : plainName "com/example/fourfold/fourfold/xdr/FragmentMap" = true := by first | (simp [plainName, overriddenIn]; done) | decide +kernel
theorem ef_3 (m : MethodId) (x0 : Addr) (x1 : Int64) : entryFrame m #[(.ref x0), (.long x1)] 3 = mkF m 0 #[.val (.ref x0), .val (.long x1), .second] [] := by first | (simp [entryFrame, mkF, argsToLocals, Value.category]; done) | rfl
def begin_start (sn : Int64) : Int64 := sn
def begin_size  : Int32 := (0 : Int32)
def begin_empty  : Int64 := (0 : Int64)
def Q_begin (Z : State) (a : Addr) (sn : Int64) (eb : Addr) (sv : Int64) (sz : Int32) (em : Int64) (h0 : Heap) (n0 : Nat) (r : Option Value) (h : Heap) (L : List Loc) : Prop := r = none ∧ Fr n0 L ∧ Keep h0 h [a] ∧ Obj Z h a "com/example/fourfold/fourfold/xdr/FragmentMap" sch_fm [(.ref eb), (.long (begin_start sn)), (.int begin_size), (.long begin_empty)]
set_option maxRecDepth 65536 in
set_option maxHeartbeats 40000000 in
theorem rm_begin (l : Launch) (Z : State) (a0 : Array Value) (hw : ∀ d ∈ tables_1, d.before a0 Z = true) (ws : List Jvm.Cond) (a : Addr) (sn : Int64) (eb : Addr) (sv : Int64) (sz : Int32) (em : Int64) (h0 : Heap) (n0 : Nat) (Z0 : n0 ≤ h0.size) (O0 : Obj Z h0 a "com/example/fourfold/fourfold/xdr/FragmentMap" sch_fm [(.ref eb), (.long sv), (.int sz), (.long em)]) (ga : n0 ≤ a) :
    MetFree l (⟨"com/example/fourfold/fourfold/xdr/FragmentMap", "begin", "(J)V"⟩ : MethodName) (head1 (Jvm.Cond.code (⟨"com/example/fourfold/fourfold/xdr/FragmentMap", "begin", "(J)V"⟩ : MethodName) prog_88_method_2_code 3 none :: ws) ({ frames := 0, cells := 0, slots := 0, locals := 0 } : Room)) (fun a_ U => a_ = #[(.ref a), (.long sn)] ∧ Z.Warmed39 U.vm ∧ U.heap = h0) (fun _ _ _ _ _ => True) (fun _ U o U' => ∃ v_ L_, o = .returned v_ ∧ Q_begin Z a sn eb sv sz em h0 n0 v_ U'.heap L_ ∧ FrameEnd U o U' L_ ({ frames := 0, cells := 0, slots := 0, locals := 0 } : Room).cells ({ frames := 0, cells := 0, slots := 0, locals := 0 } : Room).slots) := by
  refine MetFree.of_bodySF (plainFor_of_name pn_3) hisR ?_
  intro p e s m args below meth c s₁ Bd hml0 hP hK
  obtain ⟨rfl, hZ, hh⟩ := hP
  have hx := Bd.exec
  have hby := Bd.bytes
  have hlk : meth.locks = false := Bd.notSynchronized
  have hml : c.maxLocals = 3 := hml0
  have hown : s.vm.findClass "com/example/fourfold/fourfold/xdr/FragmentMap" = some m.cls := findClass_of_methodNamed Bd.named
  have hnm := (name_of_methodNamed Bd.named Bd.method).1
  have X0 : Stand p l e ({ frames := 0, cells := 0, slots := 0, locals := 0 } : Room) s m #[(.ref a), (.long sn)] below meth c s₁ [] 0 0 := Stand.of_body Bd
  have e0 : s₁.heap = h0 := by rw [← hh, Bd.state]; rfl
  have N0 := Fr.nil n0
  have K0 : Keep h0 h0 [a] := Keep.refl _ _
  show OEnds p e below s (Q_begin Z a sn eb sv sz em h0 n0) _ _ _
  refine own_by (fun t k => castTop (ef_3 m a sn) k) ?_
  show OEnds p e below s _ _ _ (s₁.setTop (mkF m 0 #[.val (.ref a), .val (.long sn), .second] []))
  refine own_by (fun _ k => XS.aloadN X0.here hx rfl (hb hby d3_0) rfl rfl k) ?_
  show OEnds p e below s _ _ _ (s₁.setTop (mkF m 1 #[.val (.ref a), .val (.long sn), .second] [(.ref a)]))
  refine own_by (fun _ k => XS.lloadN X0.here hx rfl (hb hby d3_1) rfl k) ?_
  show OEnds p e below s _ _ _ (s₁.setTop (mkF m 2 #[.val (.ref a), .val (.long sn), .second] [(.long sn), (.ref a)]))
  obtain ⟨T1, h1, X1, e1, W1, st1⟩ := putF X0 hx hZ hown (host := "") (Or.inl (hw _ (List.mem_of_getElem? (i := 19) rfl))) Via.refl e0 (O0.fld 1 rfl rfl) O0.exa (Or.inl (hw _ (List.mem_of_getElem? (i := 20) rfl))) (hw _ (List.mem_of_getElem? (i := 3) rfl)) (ty := .long) (by decide) rfl rfl (g := (mkF m 2 #[.val (.ref a), .val (.long sn), .second] [(.long sn), (.ref a)])) rfl rfl (hb hby d3_2)
  refine own_by (st1) ?_
  have O1 : Obj Z h1 a "com/example/fourfold/fourfold/xdr/FragmentMap" sch_fm [(.ref eb), (.long sn), (.int sz), (.long em)] := O0.set (so_sch_fm hw) W1 1 rfl (Nat.le_of_ble_eq_true rfl)
  have N1 := Fr.snoc X1 N0 ga
  have Z1 : n0 ≤ h1.size := Nat.le_trans Z0 (Keep.of_wr W1).1
  have K1 : Keep h0 h1 [a] := K0.wr W1 (Or.inl (List.mem_of_getElem? (i := 0) rfl))
  show OEnds p e below s _ _ _ (T1.setTop (mkF m 5 #[.val (.ref a), .val (.long sn), .second] []))
  refine own_by (fun _ k => XS.aloadN X1.here hx rfl (hb hby d3_5) rfl rfl k) ?_
  show OEnds p e below s _ _ _ (T1.setTop (mkF m 6 #[.val (.ref a), .val (.long sn), .second] [(.ref a)]))
  refine own_by (fun _ k => XS.iconst X1.here hx rfl (hb hby d3_6) k) ?_
  show OEnds p e below s _ _ _ (T1.setTop (mkF m 7 #[.val (.ref a), .val (.long sn), .second] [(.int (0 : Int32)), (.ref a)]))
  obtain ⟨T2, h2, X2, e2, W2, st2⟩ := putF X1 hx hZ hown (host := "") (Or.inl (hw _ (List.mem_of_getElem? (i := 21) rfl))) Via.refl e1 (O1.fld 2 rfl rfl) O1.exa (Or.inl (hw _ (List.mem_of_getElem? (i := 22) rfl))) (hw _ (List.mem_of_getElem? (i := 3) rfl)) (ty := .int) (by decide) rfl rfl (g := (mkF m 7 #[.val (.ref a), .val (.long sn), .second] [(.int (0 : Int32)), (.ref a)])) rfl rfl (hb hby d3_7)
  refine own_by (st2) ?_
  have O2 : Obj Z h2 a "com/example/fourfold/fourfold/xdr/FragmentMap" sch_fm [(.ref eb), (.long sn), (.int (0 : Int32)), (.long em)] := O1.set (so_sch_fm hw) W2 2 rfl (Nat.le_of_ble_eq_true rfl)
  have N2 := Fr.snoc X2 N1 ga
  have Z2 : n0 ≤ h2.size := Nat.le_trans Z1 (Keep.of_wr W2).1
  have K2 : Keep h0 h2 [a] := K1.wr W2 (Or.inl (List.mem_of_getElem? (i := 0) rfl))
  show OEnds p e below s _ _ _ (T2.setTop (mkF m 10 #[.val (.ref a), .val (.long sn), .second] []))
  refine own_by (fun _ k => XS.aloadN X2.here hx rfl (hb hby d3_10) rfl rfl k) ?_
  show OEnds p e below s _ _ _ (T2.setTop (mkF m 11 #[.val (.ref a), .val (.long sn), .second] [(.ref a)]))
  refine own_by (fun _ k => XS.lconst X2.here hx rfl (hb hby d3_11) k) ?_
  show OEnds p e below s _ _ _ (T2.setTop (mkF m 12 #[.val (.ref a), .val (.long sn), .second] [(.long (0 : Int64)), (.ref a)]))
  obtain ⟨T3, h3, X3, e3, W3, st3⟩ := putF X2 hx hZ hown (host := "") (Or.inl (hw _ (List.mem_of_getElem? (i := 23) rfl))) Via.refl e2 (O2.fld 3 rfl rfl) O2.exa (Or.inl (hw _ (List.mem_of_getElem? (i := 24) rfl))) (hw _ (List.mem_of_getElem? (i := 3) rfl)) (ty := .long) (by decide) rfl rfl (g := (mkF m 12 #[.val (.ref a), .val (.long sn), .second] [(.long (0 : Int64)), (.ref a)])) rfl rfl (hb hby d3_12)
  refine own_by (st3) ?_
  have O3 : Obj Z h3 a "com/example/fourfold/fourfold/xdr/FragmentMap" sch_fm [(.ref eb), (.long sn), (.int (0 : Int32)), (.long (0 : Int64))] := O2.set (so_sch_fm hw) W3 3 rfl (Nat.le_of_ble_eq_true rfl)
  have N3 := Fr.snoc X3 N2 ga
  have Z3 : n0 ≤ h3.size := Nat.le_trans Z2 (Keep.of_wr W3).1
  have K3 : Keep h0 h3 [a] := K2.wr W3 (Or.inl (List.mem_of_getElem? (i := 0) rfl))
  show OEnds p e below s _ _ _ (T3.setTop (mkF m 15 #[.val (.ref a), .val (.long sn), .second] []))
  have q_4_1 : (begin_start sn) = sn := (by rw [begin_start] <;> rfl)
  have q_5_2 : begin_size = (0 : Int32) := (by rw [begin_size] <;> rfl)
  have q_6_3 : begin_empty = (0 : Int64) := (by rw [begin_empty] <;> rfl)
  exact own_retV X3 hx hlk Bd.returns (hb hby d3_15) (by rw [e3]; exact ⟨rfl, N3, K3, by rw [q_4_1, q_5_2, q_6_3]; exact O3⟩) (by decide) (by decide)
theorem d7_0 : decode prog_88_method_6_code 0 = .ok (.aload_n 0, 1) := by decide +kernel
theorem d7_1 : decode prog_88_method_6_code 1 = .ok (.getfield 17, 3) := by decide +kernel
theorem d7_4 : decode prog_88_method_6_code 4 = .ok (.aload_n 0, 1) := by decide +kernel
theorem d7_5 : decode prog_88_method_6_code 5 = .ok (.getfield 7, 3) := by decide +kernel
theorem d7_8 : decode prog_88_method_6_code 8 = .ok (.arraylength, 1) := by decide +kernel
theorem d7_9 : decode prog_88_method_6_code 9 = .ok (.if_icmp .ne 20, 3) := by decide +kernel
theorem d7_29 : decode prog_88_method_6_code 29 = .ok (.aload_n 0, 1) := by decide +kernel
theorem d7_30 : decode prog_88_method_6_code 30 = .ok (.getfield 7, 3) := by decide +kernel
theorem d7_33 : decode prog_88_method_6_code 33 = .ok (.aload_n 0, 1) := by decide +kernel
theorem d7_34 : decode prog_88_method_6_code 34 = .ok (.dup, 1) := by decide +kernel
theorem d7_35 : decode prog_88_method_6_code 35 = .ok (.getfield 17, 3) := by decide +kernel
theorem d7_38 : decode prog_88_method_6_code 38 = .ok (.dup_x1, 1) := by decide +kernel
theorem d7_39 : decode prog_88_method_6_code 39 = .ok (.iconst 1, 1) := by decide +kernel
theorem d7_40 : decode prog_88_method_6_code 40 = .ok (.iadd, 1) := by decide +kernel
theorem d7_41 : decode prog_88_method_6_code 41 = .ok (.putfield 17, 3) := by decide +kernel
theorem d7_44 : decode prog_88_method_6_code 44 = .ok (.iload_n 1, 1) := by decide +kernel
theorem d7_45 : decode prog_88_method_6_code 45 = .ok (.bastore, 1) := by decide +kernel
theorem d7_46 : decode prog_88_method_6_code 46 = .ok (.return_, 1) := by decide +kernel
theorem pn_7 : plainName "com/example/fourfold/fourfold/xdr/FragmentMap" = true := by first | (simp [plainName, overriddenIn]; done) | decide +kernel
theorem ef_7 (m : MethodId) (x0 : Addr) (x1 : Int32) : entryFrame m #[(.ref x0), (.int x1)] 2 = mkF m 0 #[.val (.ref x0), .val (.int x1)] [] := by first | (simp [entryFrame, mkF, argsToLocals, Value.category]; done) | rfl
def Q_append (Z : State) (a : Addr) (bt : Int32) (b : Addr) (sv : Int64) (sz : Int32) (em : Int64) (f : Nat → Int32) (k : Nat) (h0 : Heap) (n0 : Nat) (r : Option Value) (h : Heap) (L : List Loc) : Prop := r = none ∧ Fr n0 L ∧ Keep h0 h [a, b] ∧ Obj Z h a "com/example/fourfold/fourfold/xdr/FragmentMap" sch_fm [(.ref b), (.long sv), (.int (sz + (1 : Int32))), (.long em)] ∧ FA Z h b .byte 16 (fun i => .int (updI f k (nar .byte bt) i))
set_option maxRecDepth 65536 in
set_option maxHeartbeats 40000000 in
theorem rm_append (l : Launch) (Z : State) (a0 : Array Value) (hw : ∀ d ∈ tables_1, d.before a0 Z = true) (ws : List Jvm.Cond) (a : Addr) (bt : Int32) (b : Addr) (sv : Int64) (sz : Int32) (em : Int64) (f : Nat → Int32) (k : Nat) (h0 : Heap) (n0 : Nat) (Z0 : n0 ≤ h0.size) (O0 : Obj Z h0 a "com/example/fourfold/fourfold/xdr/FragmentMap" sch_fm [(.ref b), (.long sv), (.int sz), (.long em)]) (F0 : FA Z h0 b .byte 16 (fun i => .int (f i))) (ga : n0 ≤ a) (gb : n0 ≤ b) (hk : sz.toInt = (k : Int)) (hlt : k < 16) :
    MetFree l (⟨"com/example/fourfold/fourfold/xdr/FragmentMap", "append", "(B)V"⟩ : MethodName) (head1 (Jvm.Cond.code (⟨"com/example/fourfold/fourfold/xdr/FragmentMap", "append", "(B)V"⟩ : MethodName) prog_88_method_6_code 2 none :: ws) ({ frames := 0, cells := 0, slots := 0, locals := 0 } : Room)) (fun a_ U => a_ = #[(.ref a), (.int bt)] ∧ Z.Warmed39 U.vm ∧ U.heap = h0) (fun _ _ _ _ _ => True) (fun _ U o U' => ∃ v_ L_, o = .returned v_ ∧ Q_append Z a bt b sv sz em f k h0 n0 v_ U'.heap L_ ∧ FrameEnd U o U' L_ ({ frames := 0, cells := 0, slots := 0, locals := 0 } : Room).cells ({ frames := 0, cells := 0, slots := 0, locals := 0 } : Room).slots) := by
  refine MetFree.of_bodySF (plainFor_of_name pn_7) hisR ?_
  intro p e s m args below meth c s₁ Bd hml0 hP hK
  obtain ⟨rfl, hZ, hh⟩ := hP
  have hx := Bd.exec
  have hby := Bd.bytes
  have hlk : meth.locks = false := Bd.notSynchronized
  have hml : c.maxLocals = 2 := hml0
  have hown : s.vm.findClass "com/example/fourfold/fourfold/xdr/FragmentMap" = some m.cls := findClass_of_methodNamed Bd.named
  have hnm := (name_of_methodNamed Bd.named Bd.method).1
  have X0 : Stand p l e ({ frames := 0, cells := 0, slots := 0, locals := 0 } : Room) s m #[(.ref a), (.int bt)] below meth c s₁ [] 0 0 := Stand.of_body Bd
  have e0 : s₁.heap = h0 := by rw [← hh, Bd.state]; rfl
  have N0 := Fr.nil n0
  have K0 : Keep h0 h0 [a, b] := Keep.refl _ _
  show OEnds p e below s (Q_append Z a bt b sv sz em f k h0 n0) _ _ _
  refine own_by (fun t k => castTop (ef_7 m a bt) k) ?_
  show OEnds p e below s _ _ _ (s₁.setTop (mkF m 0 #[.val (.ref a), .val (.int bt)] []))
  refine own_by (fun _ k => XS.aloadN X0.here hx rfl (hb hby d7_0) rfl rfl k) ?_
  show OEnds p e below s _ _ _ (s₁.setTop (mkF m 1 #[.val (.ref a), .val (.int bt)] [(.ref a)]))
  obtain ⟨T1, X1, e1, st1⟩ := getF X0 hx hZ hown (host := "") (Or.inl (hw _ (List.mem_of_getElem? (i := 21) rfl))) Via.refl e0 (O0.fld 2 rfl rfl) (g := (mkF m 1 #[.val (.ref a), .val (.int bt)] [(.ref a)])) rfl rfl (hb hby d7_1)
  refine own_by (st1) ?_
  show OEnds p e below s _ _ _ (T1.setTop (mkF m 4 #[.val (.ref a), .val (.int bt)] [(.int sz)]))
  refine own_by (fun _ k => XS.aloadN X1.here hx rfl (hb hby d7_4) rfl rfl k) ?_
  show OEnds p e below s _ _ _ (T1.setTop (mkF m 5 #[.val (.ref a), .val (.int bt)] [(.ref a), (.int sz)]))
  obtain ⟨T2, X2, e2, st2⟩ := getF X1 hx hZ hown (host := "") (Or.inl (hw _ (List.mem_of_getElem? (i := 12) rfl))) Via.refl e1 (O0.fld 0 rfl rfl) (g := (mkF m 5 #[.val (.ref a), .val (.int bt)] [(.ref a), (.int sz)])) rfl rfl (hb hby d7_5)
  refine own_by (st2) ?_
  show OEnds p e below s _ _ _ (T2.setTop (mkF m 8 #[.val (.ref a), .val (.int bt)] [(.ref b), (.int sz)]))
  refine own_by (own_len X2 hx hZ e2 F0 (z := (16 : Int32)) (by decide) (g := (mkF m 8 #[.val (.ref a), .val (.int bt)] [(.ref b), (.int sz)])) rfl rfl (hb hby d7_8)) ?_
  show OEnds p e below s _ _ _ (T2.setTop (mkF m 9 #[.val (.ref a), .val (.int bt)] [(.int (16 : Int32)), (.int sz)]))
  refine own_by (fun _ k => XS.icmpYes X2.here hx rfl (pc0 := 9) (pc' := 29) rfl (hb hby d7_9) rfl (feq (own_ne16 hk hlt)).2 (by decide) (by decide) k) ?_
  show OEnds p e below s _ _ _ (T2.setTop (mkF m 29 #[.val (.ref a), .val (.int bt)] []))
  refine own_by (fun _ k => XS.aloadN X2.here hx rfl (hb hby d7_29) rfl rfl k) ?_
  show OEnds p e below s _ _ _ (T2.setTop (mkF m 30 #[.val (.ref a), .val (.int bt)] [(.ref a)]))
  obtain ⟨T3, X3, e3, st3⟩ := getF X2 hx hZ hown (host := "") (Or.inl (hw _ (List.mem_of_getElem? (i := 12) rfl))) Via.refl e2 (O0.fld 0 rfl rfl) (g := (mkF m 30 #[.val (.ref a), .val (.int bt)] [(.ref a)])) rfl rfl (hb hby d7_30)
  refine own_by (st3) ?_
  show OEnds p e below s _ _ _ (T3.setTop (mkF m 33 #[.val (.ref a), .val (.int bt)] [(.ref b)]))
  refine own_by (fun _ k => XS.aloadN X3.here hx rfl (hb hby d7_33) rfl rfl k) ?_
  show OEnds p e below s _ _ _ (T3.setTop (mkF m 34 #[.val (.ref a), .val (.int bt)] [(.ref a), (.ref b)]))
  refine own_by (fun _ k => XS.dup X3.here hx rfl (hb hby d7_34) rfl rfl k) ?_
  show OEnds p e below s _ _ _ (T3.setTop (mkF m 35 #[.val (.ref a), .val (.int bt)] [(.ref a), (.ref a), (.ref b)]))
  obtain ⟨T4, X4, e4, st4⟩ := getF X3 hx hZ hown (host := "") (Or.inl (hw _ (List.mem_of_getElem? (i := 21) rfl))) Via.refl e3 (O0.fld 2 rfl rfl) (g := (mkF m 35 #[.val (.ref a), .val (.int bt)] [(.ref a), (.ref a), (.ref b)])) rfl rfl (hb hby d7_35)
  refine own_by (st4) ?_
  show OEnds p e below s _ _ _ (T4.setTop (mkF m 38 #[.val (.ref a), .val (.int bt)] [(.int sz), (.ref a), (.ref b)]))
  refine own_by (fun _ k => XS.dupX1 X4.here hx rfl (hb hby d7_38) rfl rfl rfl k) ?_
  show OEnds p e below s _ _ _ (T4.setTop (mkF m 39 #[.val (.ref a), .val (.int bt)] [(.int sz), (.ref a), (.int sz), (.ref b)]))
  refine own_by (fun _ k => XS.iconst X4.here hx rfl (hb hby d7_39) k) ?_
  show OEnds p e below s _ _ _ (T4.setTop (mkF m 40 #[.val (.ref a), .val (.int bt)] [(.int (1 : Int32)), (.int sz), (.ref a), (.int sz), (.ref b)]))
  refine own_by (fun _ k => XS.iadd X4.here hx rfl (hb hby d7_40) rfl k) ?_
  show OEnds p e below s _ _ _ (T4.setTop (mkF m 41 #[.val (.ref a), .val (.int bt)] [(.int (sz + (1 : Int32))), (.ref a), (.int sz), (.ref b)]))
  obtain ⟨T5, h5, X5, e5, W5, st5⟩ := putF X4 hx hZ hown (host := "") (Or.inl (hw _ (List.mem_of_getElem? (i := 21) rfl))) Via.refl e4 (O0.fld 2 rfl rfl) O0.exa (Or.inl (hw _ (List.mem_of_getElem? (i := 22) rfl))) (hw _ (List.mem_of_getElem? (i := 3) rfl)) (ty := .int) (by decide) rfl rfl (g := (mkF m 41 #[.val (.ref a), .val (.int bt)] [(.int (sz + (1 : Int32))), (.ref a), (.int sz), (.ref b)])) rfl rfl (hb hby d7_41)
  refine own_by (st5) ?_
  have O5 : Obj Z h5 a "com/example/fourfold/fourfold/xdr/FragmentMap" sch_fm [(.ref b), (.long sv), (.int (sz + (1 : Int32))), (.long em)] := O0.set (so_sch_fm hw) W5 2 rfl (Nat.le_of_ble_eq_true rfl)
  have N5 := Fr.snoc X5 N0 ga
  have Z5 : n0 ≤ h5.size := Nat.le_trans Z0 (Keep.of_wr W5).1
  have K5 : Keep h0 h5 [a, b] := K0.wr W5 (Or.inl (List.mem_of_getElem? (i := 0) rfl))
  show OEnds p e below s _ _ _ (T5.setTop (mkF m 44 #[.val (.ref a), .val (.int bt)] [(.int sz), (.ref b)]))
  refine own_by (fun _ k => XS.iloadN X5.here hx rfl (hb hby d7_44) rfl k) ?_
  show OEnds p e below s _ _ _ (T5.setTop (mkF m 45 #[.val (.ref a), .val (.int bt)] [(.int bt), (.int sz), (.ref b)]))
  have F7 : FA Z h5 b .byte 16 (fun i => .int (f i)) := (F0.other W5 (Ne.symm (O0.ne_fa (hw _ (List.mem_of_getElem? (i := 3) rfl)) F0)))
  obtain ⟨T6, h6, X6, e6, W6, st6⟩ := own_bastore X5 hx hZ e5 F7 k hk hlt (g := (mkF m 45 #[.val (.ref a), .val (.int bt)] [(.int bt), (.int sz), (.ref b)])) rfl rfl (hb hby d7_45)
  refine own_by (st6) ?_
  have F6 : FA Z h6 b .byte 16 (fun i => .int ((updI f k (nar .byte bt)) i)) := F7.setI W6
  have N6 := Fr.snoc X6 N5 gb
  have Z6 : n0 ≤ h6.size := Nat.le_trans Z5 (Keep.of_wr W6).1
  have K6 : Keep h0 h6 [a, b] := K5.wr W6 (Or.inl (List.mem_of_getElem? (i := 1) rfl))
  show OEnds p e below s _ _ _ (T6.setTop (mkF m 46 #[.val (.ref a), .val (.int bt)] []))
  have O8 : Obj Z h6 a "com/example/fourfold/fourfold/xdr/FragmentMap" sch_fm [(.ref b), (.long sv), (.int (sz + (1 : Int32))), (.long em)] := (O5.other W6 (O5.ne_fa (hw _ (List.mem_of_getElem? (i := 3) rfl)) F7))
  exact own_retV X6 hx hlk Bd.returns (hb hby d7_46) (by rw [e6]; exact ⟨rfl, N6, K6, O8, F6⟩) (by decide) (by decide)
theorem d6_0 : decode prog_88_method_5_code 0 = .ok (.lload_n 1, 1) := by decide +kernel
theorem d6_1 : decode prog_88_method_5_code 1 = .ok (.lstore_n 3, 1) := by decide +kernel
theorem d6_2 : decode prog_88_method_5_code 2 = .ok (.lload_n 3, 1) := by decide +kernel
theorem d6_3 : decode prog_88_method_5_code 3 = .ok (.ldc2_w 34, 3) := by decide +kernel
theorem d6_6 : decode prog_88_method_5_code 6 = .ok (.lcmp, 1) := by decide +kernel
theorem d6_7 : decode prog_88_method_5_code 7 = .ok (.ifCond .lt 22, 3) := by decide +kernel
theorem d6_10 : decode prog_88_method_5_code 10 = .ok (.aload_n 0, 1) := by decide +kernel
theorem d6_11 : decode prog_88_method_5_code 11 = .ok (.lload_n 3, 1) := by decide +kernel
theorem d6_12 : decode prog_88_method_5_code 12 = .ok (.ldc2_w 34, 3) := by decide +kernel
theorem d6_15 : decode prog_88_method_5_code 15 = .ok (.lor, 1) := by decide +kernel
theorem d6_16 : decode prog_88_method_5_code 16 = .ok (.l2i, 1) := by decide +kernel
theorem d6_17 : decode prog_88_method_5_code 17 = .ok (.i2b, 1) := by decide +kernel
theorem d6_18 : decode prog_88_method_5_code 18 = .ok (.invokevirtual 36, 3) := by decide +kernel
theorem d6_21 : decode prog_88_method_5_code 21 = .ok (.lload_n 3, 1) := by decide +kernel
theorem d6_22 : decode prog_88_method_5_code 22 = .ok (.bipush 7, 2) := by decide +kernel
theorem d6_24 : decode prog_88_method_5_code 24 = .ok (.lushr, 1) := by decide +kernel
theorem d6_25 : decode prog_88_method_5_code 25 = .ok (.lstore_n 3, 1) := by decide +kernel
theorem d6_26 : decode prog_88_method_5_code 26 = .ok (.goto (-24), 3) := by decide +kernel
theorem d6_29 : decode prog_88_method_5_code 29 = .ok (.aload_n 0, 1) := by decide +kernel
theorem d6_30 : decode prog_88_method_5_code 30 = .ok (.lload_n 3, 1) := by decide +kernel
theorem d6_31 : decode prog_88_method_5_code 31 = .ok (.l2i, 1) := by decide +kernel
theorem d6_32 : decode prog_88_method_5_code 32 = .ok (.i2b, 1) := by decide +kernel
theorem d6_33 : decode prog_88_method_5_code 33 = .ok (.invokevirtual 36, 3) := by decide +kernel
theorem d6_36 : decode prog_88_method_5_code 36 = .ok (.return_, 1) := by decide +kernel
theorem pn_6 : plainName "com/example/fourfold/fourfold/xdr/FragmentMap" = true := by first | (simp [plainName, overriddenIn]; done) | decide +kernel
theorem ef_6 (m : MethodId) (x0 : Addr) (x1 : Int64) : entryFrame m #[(.ref x0), (.long x1)] 5 = mkF m 0 #[.val (.ref x0), .val (.long x1), .second, .unset, .unset] [] := by first | (simp [entryFrame, mkF, argsToLocals, Value.category]; done) | rfl
def Q_put (Z : State) (a b : Addr) (sv em : Int64) (f : Nat → Int32) (k v : Nat) (h0 : Heap) (n0 : Nat) (r : Option Value) (h : Heap) (L : List Loc) : Prop := r = none ∧ Fr n0 L ∧ Keep h0 h [a, b] ∧ ∃ bs : List Int32, Enc v bs ∧ bs.length ≤ 5 ∧ ∃ sz : Int32, sz.toInt = ((k + bs.length : Nat) : Int) ∧ Obj Z h a "com/example/fourfold/fourfold/xdr/FragmentMap" sch_fm [(.ref b), (.long sv), (.int sz), (.long em)] ∧ FA Z h b .byte 16 (fun i => .int (wrs f k bs i))
set_option maxRecDepth 65536 in
set_option maxHeartbeats 40000000 in
theorem rm_put (l : Launch) (Z : State) (a0 : Array Value) (hw : ∀ d ∈ tables_1, d.before a0 Z = true) (ws : List Jvm.Cond) (a : Addr) (vv : Int64) (b : Addr) (sv : Int64) (sz : Int32) (em : Int64) (f : Nat → Int32) (k : Nat) (v : Nat) (h0 : Heap) (n0 : Nat) (Z0 : n0 ≤ h0.size) (O0 : Obj Z h0 a "com/example/fourfold/fourfold/xdr/FragmentMap" sch_fm [(.ref b), (.long sv), (.int sz), (.long em)]) (F0 : FA Z h0 b .byte 16 (fun i => .int (f i))) (ga : n0 ≤ a) (gb : n0 ≤ b) (hk : sz.toInt = (k : Int)) (hroom : k + 5 ≤ 16) (hv : vv.toInt = (v : Int)) (hv5 : v < 128 ^ 5) :
    MetFree l (⟨"com/example/fourfold/fourfold/xdr/FragmentMap", "put", "(J)V"⟩ : MethodName) (head1 (Jvm.Cond.code (⟨"com/example/fourfold/fourfold/xdr/FragmentMap", "put", "(J)V"⟩ : MethodName) prog_88_method_5_code 5 none :: ws) ({ frames := 1, cells := 0, slots := 0, locals := 13 } : Room)) (fun a_ U => a_ = #[(.ref a), (.long vv)] ∧ Z.Warmed39 U.vm ∧ U.heap = h0) (fun _ _ _ _ _ => True) (fun _ U o U' => ∃ v_ L_, o = .returned v_ ∧ Q_put Z a b sv em f k v h0 n0 v_ U'.heap L_ ∧ FrameEnd U o U' L_ ({ frames := 1, cells := 0, slots := 0, locals := 13 } : Room).cells ({ frames := 1, cells := 0, slots := 0, locals := 13 } : Room).slots) := by
  refine MetFree.of_bodySF (plainFor_of_name pn_6) hisR ?_
  intro p e s m args below meth c s₁ Bd hml0 hP hK
  obtain ⟨rfl, hZ, hh⟩ := hP
  have hx := Bd.exec
  have hby := Bd.bytes
  have hlk : meth.locks = false := Bd.notSynchronized
  have hml : c.maxLocals = 5 := hml0
  have hown : s.vm.findClass "com/example/fourfold/fourfold/xdr/FragmentMap" = some m.cls := findClass_of_methodNamed Bd.named
  have hnm := (name_of_methodNamed Bd.named Bd.method).1
  have X0 : Stand p l e ({ frames := 1, cells := 0, slots := 0, locals := 13 } : Room) s m #[(.ref a), (.long vv)] below meth c s₁ [] 0 0 := Stand.of_body Bd
  have e0 : s₁.heap = h0 := by rw [← hh, Bd.state]; rfl
  have N0 := Fr.nil n0
  have K0 : Keep h0 h0 [a, b] := Keep.refl _ _
  show OEnds p e below s (Q_put Z a b sv em f k v h0 n0) _ _ _
  refine own_by (fun t k => castTop (ef_6 m a vv) k) ?_
  show OEnds p e below s _ _ _ (s₁.setTop (mkF m 0 #[.val (.ref a), .val (.long vv), .second, .unset, .unset] []))
  refine own_by (fun _ k => XS.lloadN X0.here hx rfl (hb hby d6_0) rfl k) ?_
  show OEnds p e below s _ _ _ (s₁.setTop (mkF m 1 #[.val (.ref a), .val (.long vv), .second, .unset, .unset] [(.long vv)]))
  refine own_by (fun _ k => XS.lstoreN X0.here hx rfl (hb hby d6_1) rfl (l' := #[.val (.ref a), .val (.long vv), .second, .val (.long vv), .second]) rfl k) ?_
  show OEnds p e below s _ _ _ (s₁.setTop (mkF m 2 #[.val (.ref a), .val (.long vv), .second, .val (.long vv), .second] []))
  have fin29 : ∀ (T : State) (lo : List Loc) (cv : Int64) (cz : Int32) (cf : Nat → Int32) (pre : List Int32) (u : Nat) (h_fin29 : Heap) (Zz_fin29 : n0 ≤ h_fin29.size) (X_fin29 : Stand p l e ({ frames := 1, cells := 0, slots := 0, locals := 13 } : Room) s m #[(.ref a), (.long vv)] below meth c T lo 0 0) (e_fin29 : T.heap = h_fin29) (N_fin29 : Fr n0 lo) (Kp_fin29 : Keep h0 h_fin29 [a, b]) (Ob_fin29_a : Obj Z h_fin29 a "com/example/fourfold/fourfold/xdr/FragmentMap" sch_fm [(.ref b), (.long sv), (.int cz), (.long em)]) (Fa_fin29_b : FA Z h_fin29 b .byte 16 (fun i => .int (cf i))) (hcz : cz.toInt = ((k + pre.length : Nat) : Int)) (hcf : cf = wrs f k pre) (hcv : cv.toInt = (u : Int)) (hen : ∀ bs, Enc u bs → Enc v (pre ++ bs)) (hu : u < 128) (hpl : pre.length + 1 ≤ 5), OEnds p e below s (Q_put Z a b sv em f k v h0 n0) 0 0 (T.setTop (mkF m 29 #[.val (.ref a), .val (.long vv), .second, .val (.long cv), .second] [])) := by
    intro T lo cv cz cf pre u h_fin29 Zz_fin29 X_fin29 e_fin29 N_fin29 Kp_fin29 Ob_fin29_a Fa_fin29_b hcz hcf hcv hen hu hpl
    show OEnds p e below s _ _ _ (T.setTop (mkF m 29 #[.val (.ref a), .val (.long vv), .second, .val (.long cv), .second] []))
    refine own_by (fun _ k => XS.aloadN X_fin29.here hx rfl (hb hby d6_29) rfl rfl k) ?_
    show OEnds p e below s _ _ _ (T.setTop (mkF m 30 #[.val (.ref a), .val (.long vv), .second, .val (.long cv), .second] [(.ref a)]))
    refine own_by (fun _ k => XS.lloadN X_fin29.here hx rfl (hb hby d6_30) rfl k) ?_
    show OEnds p e below s _ _ _ (T.setTop (mkF m 31 #[.val (.ref a), .val (.long vv), .second, .val (.long cv), .second] [(.long cv), (.ref a)]))
    refine own_by (fun _ k => XS.l2i X_fin29.here hx rfl (hb hby d6_31) rfl k) ?_
    show OEnds p e below s _ _ _ (T.setTop (mkF m 32 #[.val (.ref a), .val (.long vv), .second, .val (.long cv), .second] [(.int (cv.toInt32)), (.ref a)]))
    refine own_by (fun _ k => XS.i2b X_fin29.here hx rfl (hb hby d6_32) rfl k) ?_
    show OEnds p e below s _ _ _ (T.setTop (mkF m 33 #[.val (.ref a), .val (.long vv), .second, .val (.long cv), .second] [(.int ((cv.toInt32).toInt8.toInt32)), (.ref a)]))
    obtain ⟨v1, T1, L1, h1, X1, e1, hQ1, st1⟩ := own_callX X_fin29 hx hZ (y := (⟨"com/example/fourfold/fourfold/xdr/FragmentMap", "append", "(B)V"⟩ : MethodName)) hown (hw _ (List.mem_of_getElem? (i := 43) rfl)) (hw _ (List.mem_of_getElem? (i := 44) rfl)) (hw _ (List.mem_of_getElem? (i := 45) rfl)) (hw _ (List.mem_of_getElem? (i := 46) rfl)) (hw _ (List.mem_of_getElem? (i := 4) rfl)) (hw _ (List.mem_of_getElem? (i := 3) rfl)) (by decide) Ob_fin29_a.exa (rm_append l Z a0 hw [] a ((cv.toInt32).toInt8.toInt32) b sv cz em cf (k + pre.length) h_fin29 n0 Zz_fin29 Ob_fin29_a Fa_fin29_b ga gb hcz (by omega)) e_fin29 (g := (mkF m 33 #[.val (.ref a), .val (.long vv), .second, .val (.long cv), .second] [(.int ((cv.toInt32).toInt8.toInt32)), (.ref a)])) rfl (by rw [hml]; rfl) (argsL := [(.int ((cv.toInt32).toInt8.toInt32))]) (rest := []) (lenOf pd_pBrV rfl) rfl (W := 0) (by show 2 * 0 + _ ≤ _; exact Nat.le_of_eq rfl) (hb hby d6_33) (by decide) (by decide) (by decide) (by decide)
    obtain ⟨rfl, Nq1, Kq1, O1, F1⟩ := hQ1
    have N1 := Fr.app N_fin29 Nq1
    have K1 : Keep h0 h1 [a, b] := Kp_fin29.trans Kq1 (allS (Or.inl (List.mem_of_getElem? (i := 0) rfl)) (allS (Or.inl (List.mem_of_getElem? (i := 1) rfl)) all0))
    have Z1 : n0 ≤ h1.size := Nat.le_trans Zz_fin29 Kq1.1
    refine own_tr st1 ?_
    show OEnds p e below s _ _ _ (T1.setTop (mkF m 36 #[.val (.ref a), .val (.long vv), .second, .val (.long cv), .second] []))
    exact own_retV X1 hx hlk Bd.returns (hb hby d6_36) (by rw [e1]; exact ⟨rfl, N1, K1, _, hen _ (enc_last hcv hu), put_len hpl, _, put_sz hcz (by omega), O1, (F1).congr fun i _ => by rw [hcf, wrs_snoc]⟩) (by decide) (by decide)
  have loop2 : ∀ (j : Nat) (T : State) (lo : List Loc) (cv : Int64) (cz : Int32) (cf : Nat → Int32) (pre : List Int32) (u : Nat) (h_loop2 : Heap) (Zz_loop2 : n0 ≤ h_loop2.size) (X_loop2 : Stand p l e ({ frames := 1, cells := 0, slots := 0, locals := 13 } : Room) s m #[(.ref a), (.long vv)] below meth c T lo 0 0) (e_loop2 : T.heap = h_loop2) (N_loop2 : Fr n0 lo) (Kp_loop2 : Keep h0 h_loop2 [a, b]) (Ob_loop2_a : Obj Z h_loop2 a "com/example/fourfold/fourfold/xdr/FragmentMap" sch_fm [(.ref b), (.long sv), (.int cz), (.long em)]) (Fa_loop2_b : FA Z h_loop2 b .byte 16 (fun i => .int (cf i))) (hcz : cz.toInt = ((k + pre.length : Nat) : Int)) (hcf : cf = wrs f k pre) (hcv : cv.toInt = (u : Int)) (hen : ∀ bs, Enc u bs → Enc v (pre ++ bs)) (hj : u < 128 ^ (j + 1)) (hpl : pre.length + j + 1 ≤ 5), OEnds p e below s (Q_put Z a b sv em f k v h0 n0) 0 0 (T.setTop (mkF m 2 #[.val (.ref a), .val (.long vv), .second, .val (.long cv), .second] [])) := by
    intro j
    induction j with
    | zero =>
      intro T lo cv cz cf pre u h_loop2 Zz_loop2 X_loop2 e_loop2 N_loop2 Kp_loop2 Ob_loop2_a Fa_loop2_b hcz hcf hcv hen hj hpl
      show OEnds p e below s _ _ _ (T.setTop (mkF m 2 #[.val (.ref a), .val (.long vv), .second, .val (.long cv), .second] []))
      refine own_by (fun _ k => XS.lloadN X_loop2.here hx rfl (hb hby d6_2) rfl k) ?_
      show OEnds p e below s _ _ _ (T.setTop (mkF m 3 #[.val (.ref a), .val (.long vv), .second, .val (.long cv), .second] [(.long cv)]))
      refine own_by (X_loop2.ldc2Long hx hown (mvT hZ (hw _ (List.mem_of_getElem? (i := 42) rfl))) (g := (mkF m 3 #[.val (.ref a), .val (.long vv), .second, .val (.long cv), .second] [(.long cv)])) rfl (hb hby d6_3)) ?_
      show OEnds p e below s _ _ _ (T.setTop (mkF m 6 #[.val (.ref a), .val (.long vv), .second, .val (.long cv), .second] [(.long (128 : Int64)), (.long cv)]))
      refine own_by (fun _ k => XS.lcmp X_loop2.here hx rfl (hb hby d6_6) rfl k) ?_
      show OEnds p e below s _ _ _ (T.setTop (mkF m 7 #[.val (.ref a), .val (.long vv), .second, .val (.long cv), .second] [(.int (lcmpW cv (128 : Int64)))]))
      refine own_by (fun _ k => XS.ifYes X_loop2.here hx rfl (pc0 := 7) (pc' := 29) rfl (hb hby d6_7) rfl ((if0 _ _).trans (tlt ((lw_lt _ _).mpr (lt128 hcv (by omega)))).1) (by decide) (by decide) k) ?_
      show OEnds p e below s _ _ _ (T.setTop (mkF m 29 #[.val (.ref a), .val (.long vv), .second, .val (.long cv), .second] []))
      exact fin29 T _ cv cz cf pre u h_loop2 Zz_loop2 X_loop2 e_loop2 N_loop2 Kp_loop2 Ob_loop2_a Fa_loop2_b hcz hcf hcv hen (by omega) (by omega)
    | succ j ih_loop2 =>
      intro T lo cv cz cf pre u h_loop2 Zz_loop2 X_loop2 e_loop2 N_loop2 Kp_loop2 Ob_loop2_a Fa_loop2_b hcz hcf hcv hen hj hpl
      show OEnds p e below s _ _ _ (T.setTop (mkF m 2 #[.val (.ref a), .val (.long vv), .second, .val (.long cv), .second] []))
      refine own_by (fun _ k => XS.lloadN X_loop2.here hx rfl (hb hby d6_2) rfl k) ?_
      show OEnds p e below s _ _ _ (T.setTop (mkF m 3 #[.val (.ref a), .val (.long vv), .second, .val (.long cv), .second] [(.long cv)]))
      refine own_by (X_loop2.ldc2Long hx hown (mvT hZ (hw _ (List.mem_of_getElem? (i := 42) rfl))) (g := (mkF m 3 #[.val (.ref a), .val (.long vv), .second, .val (.long cv), .second] [(.long cv)])) rfl (hb hby d6_3)) ?_
      show OEnds p e below s _ _ _ (T.setTop (mkF m 6 #[.val (.ref a), .val (.long vv), .second, .val (.long cv), .second] [(.long (128 : Int64)), (.long cv)]))
      refine own_by (fun _ k => XS.lcmp X_loop2.here hx rfl (hb hby d6_6) rfl k) ?_
      show OEnds p e below s _ _ _ (T.setTop (mkF m 7 #[.val (.ref a), .val (.long vv), .second, .val (.long cv), .second] [(.int (lcmpW cv (128 : Int64)))]))
      by_cases hc7_2 : cv < (128 : Int64)
      · refine own_by (fun _ k => XS.ifYes X_loop2.here hx rfl (pc0 := 7) (pc' := 29) rfl (hb hby d6_7) rfl ((if0 _ _).trans (tlt ((lw_lt _ _).mpr hc7_2)).1) (by decide) (by decide) k) ?_
        show OEnds p e below s _ _ _ (T.setTop (mkF m 29 #[.val (.ref a), .val (.long vv), .second, .val (.long cv), .second] []))
        exact fin29 T _ cv cz cf pre u h_loop2 Zz_loop2 X_loop2 e_loop2 N_loop2 Kp_loop2 Ob_loop2_a Fa_loop2_b hcz hcf hcv hen (lt128' hcv hc7_2) (by omega)
      · refine own_by (fun _ k => XS.ifNo X_loop2.here hx rfl (hb hby d6_7) rfl ((if0 _ _).trans (flt (fun q => hc7_2 ((lw_lt _ _).mp q))).1) k) ?_
        show OEnds p e below s _ _ _ (T.setTop (mkF m 10 #[.val (.ref a), .val (.long vv), .second, .val (.long cv), .second] []))
        refine own_by (fun _ k => XS.aloadN X_loop2.here hx rfl (hb hby d6_10) rfl rfl k) ?_
        show OEnds p e below s _ _ _ (T.setTop (mkF m 11 #[.val (.ref a), .val (.long vv), .second, .val (.long cv), .second] [(.ref a)]))
        refine own_by (fun _ k => XS.lloadN X_loop2.here hx rfl (hb hby d6_11) rfl k) ?_
        show OEnds p e below s _ _ _ (T.setTop (mkF m 12 #[.val (.ref a), .val (.long vv), .second, .val (.long cv), .second] [(.long cv), (.ref a)]))
        refine own_by (X_loop2.ldc2Long hx hown (mvT hZ (hw _ (List.mem_of_getElem? (i := 42) rfl))) (g := (mkF m 12 #[.val (.ref a), .val (.long vv), .second, .val (.long cv), .second] [(.long cv), (.ref a)])) rfl (hb hby d6_12)) ?_
        show OEnds p e below s _ _ _ (T.setTop (mkF m 15 #[.val (.ref a), .val (.long vv), .second, .val (.long cv), .second] [(.long (128 : Int64)), (.long cv), (.ref a)]))
        refine own_by (fun _ k => XS.lor X_loop2.here hx rfl (hb hby d6_15) rfl k) ?_
        show OEnds p e below s _ _ _ (T.setTop (mkF m 16 #[.val (.ref a), .val (.long vv), .second, .val (.long cv), .second] [(.long (cv ||| (128 : Int64))), (.ref a)]))
        refine own_by (fun _ k => XS.l2i X_loop2.here hx rfl (hb hby d6_16) rfl k) ?_
        show OEnds p e below s _ _ _ (T.setTop (mkF m 17 #[.val (.ref a), .val (.long vv), .second, .val (.long cv), .second] [(.int ((cv ||| (128 : Int64)).toInt32)), (.ref a)]))
        refine own_by (fun _ k => XS.i2b X_loop2.here hx rfl (hb hby d6_17) rfl k) ?_
        show OEnds p e below s _ _ _ (T.setTop (mkF m 18 #[.val (.ref a), .val (.long vv), .second, .val (.long cv), .second] [(.int (((cv ||| (128 : Int64)).toInt32).toInt8.toInt32)), (.ref a)]))
        obtain ⟨v3, T3, L3, h3, X3, e3, hQ3, st3⟩ := own_callX X_loop2 hx hZ (y := (⟨"com/example/fourfold/fourfold/xdr/FragmentMap", "append", "(B)V"⟩ : MethodName)) hown (hw _ (List.mem_of_getElem? (i := 43) rfl)) (hw _ (List.mem_of_getElem? (i := 44) rfl)) (hw _ (List.mem_of_getElem? (i := 45) rfl)) (hw _ (List.mem_of_getElem? (i := 46) rfl)) (hw _ (List.mem_of_getElem? (i := 4) rfl)) (hw _ (List.mem_of_getElem? (i := 3) rfl)) (by decide) Ob_loop2_a.exa (rm_append l Z a0 hw [] a (((cv ||| (128 : Int64)).toInt32).toInt8.toInt32) b sv cz em cf (k + pre.length) h_loop2 n0 Zz_loop2 Ob_loop2_a Fa_loop2_b ga gb hcz (by omega)) e_loop2 (g := (mkF m 18 #[.val (.ref a), .val (.long vv), .second, .val (.long cv), .second] [(.int (((cv ||| (128 : Int64)).toInt32).toInt8.toInt32)), (.ref a)])) rfl (by rw [hml]; rfl) (argsL := [(.int (((cv ||| (128 : Int64)).toInt32).toInt8.toInt32))]) (rest := []) (lenOf pd_pBrV rfl) rfl (W := 0) (by show 2 * 0 + _ ≤ _; exact Nat.le_of_eq rfl) (hb hby d6_18) (by decide) (by decide) (by decide) (by decide)
        obtain ⟨rfl, Nq3, Kq3, O3, F3⟩ := hQ3
        have N3 := Fr.app N_loop2 Nq3
        have K3 : Keep h0 h3 [a, b] := Kp_loop2.trans Kq3 (allS (Or.inl (List.mem_of_getElem? (i := 0) rfl)) (allS (Or.inl (List.mem_of_getElem? (i := 1) rfl)) all0))
        have Z3 : n0 ≤ h3.size := Nat.le_trans Zz_loop2 Kq3.1
        refine own_tr st3 ?_
        show OEnds p e below s _ _ _ (T3.setTop (mkF m 21 #[.val (.ref a), .val (.long vv), .second, .val (.long cv), .second] []))
        refine own_by (fun _ k => XS.lloadN X3.here hx rfl (hb hby d6_21) rfl k) ?_
        show OEnds p e below s _ _ _ (T3.setTop (mkF m 22 #[.val (.ref a), .val (.long vv), .second, .val (.long cv), .second] [(.long cv)]))
        refine own_by (fun _ k => XS.bipush X3.here hx rfl (hb hby d6_22) k) ?_
        show OEnds p e below s _ _ _ (T3.setTop (mkF m 24 #[.val (.ref a), .val (.long vv), .second, .val (.long cv), .second] [(.int (7 : Int32)), (.long cv)]))
        refine own_by (fun _ k => XS.lushr X3.here hx rfl (hb hby d6_24) rfl k) ?_
        show OEnds p e below s _ _ _ (T3.setTop (mkF m 25 #[.val (.ref a), .val (.long vv), .second, .val (.long cv), .second] [(.long ((cv.toUInt64 >>> ((7 : Int32) &&& 0x3f).toInt64.toUInt64).toInt64))]))
        refine own_by (fun _ k => XS.lstoreN X3.here hx rfl (hb hby d6_25) rfl (l' := #[.val (.ref a), .val (.long vv), .second, .val (.long ((cv.toUInt64 >>> ((7 : Int32) &&& 0x3f).toInt64.toUInt64).toInt64)), .second]) rfl k) ?_
        show OEnds p e below s _ _ _ (T3.setTop (mkF m 26 #[.val (.ref a), .val (.long vv), .second, .val (.long ((cv.toUInt64 >>> ((7 : Int32) &&& 0x3f).toInt64.toUInt64).toInt64)), .second] []))
        refine own_by (fun _ k => XS.goto X3.here hx rfl (pc0 := 26) (pc' := 2) rfl (hb hby d6_26) (by decide) (by decide) k) ?_
        show OEnds p e below s _ _ _ (T3.setTop (mkF m 2 #[.val (.ref a), .val (.long vv), .second, .val (.long ((cv.toUInt64 >>> ((7 : Int32) &&& 0x3f).toInt64.toUInt64).toInt64)), .second] []))
        have h128 := ge128 hcv hc7_2
        exact ih_loop2 T3 _ ((cv.toUInt64 >>> ((7 : Int32) &&& 0x3f).toInt64.toUInt64).toInt64) (cz + (1 : Int32)) _ (pre ++ [(nar .byte (((cv ||| (128 : Int64)).toInt32).toInt8.toInt32))]) (u / 128) h3 Z3 X3 e3 N3 K3 O3 F3 (put_sz' hcz (by omega)) (by rw [hcf, wrs_snoc]) (ush7 hcv) (fun bs hb => by rw [List.append_assoc]; exact hen _ (enc_more hcv h128 hb)) (by have := Nat.pow_succ 128 (j + 1); omega) (by simp; omega)
  exact loop2 4 s₁ _ vv sz f [] v h0 Z0 X0 e0 N0 K0 O0 F0 (by simpa using hk) (wrs_nil f k) hv (fun bs hb => hb) hv5 (by simp)
theorem d4_0 : decode prog_88_method_3_code 0 = .ok (.iload_n 1, 1) := by decide +kernel
theorem d4_1 : decode prog_88_method_3_code 1 = .ok (.ifCond .ne 16, 3) := by decide +kernel
theorem d4_4 : decode prog_88_method_3_code 4 = .ok (.aload_n 0, 1) := by decide +kernel
theorem d4_5 : decode prog_88_method_3_code 5 = .ok (.dup, 1) := by decide +kernel
theorem d4_6 : decode prog_88_method_3_code 6 = .ok (.getfield 21, 3) := by decide +kernel
theorem d4_9 : decode prog_88_method_3_code 9 = .ok (.lconst 1, 1) := by decide +kernel
theorem d4_10 : decode prog_88_method_3_code 10 = .ok (.ladd, 1) := by decide +kernel
theorem d4_11 : decode prog_88_method_3_code 11 = .ok (.putfield 21, 3) := by decide +kernel
theorem d4_14 : decode prog_88_method_3_code 14 = .ok (.goto 41, 3) := by decide +kernel
theorem d4_55 : decode prog_88_method_3_code 55 = .ok (.return_, 1) := by decide +kernel
theorem pn_4 : plainName "com/example/fourfold/fourfold/xdr/FragmentMap" = true := by first | (simp [plainName, overriddenIn]; done) | decide +kernel
theorem ef_4 (m : MethodId) (x0 : Addr) (x1 : Int32) : entryFrame m #[(.ref x0), (.int x1)] 2 = mkF m 0 #[.val (.ref x0), .val (.int x1)] [] := by first | (simp [entryFrame, mkF, argsToLocals, Value.category]; done) | rfl
def Q_addZ (Z : State) (a b : Addr) (sv : Int64) (sz : Int32) (em : Int64) (h0 : Heap) (n0 : Nat) (r : Option Value) (h : Heap) (L : List Loc) : Prop := r = none ∧ Fr n0 L ∧ Keep h0 h [a] ∧ Obj Z h a "com/example/fourfold/fourfold/xdr/FragmentMap" sch_fm [(.ref b), (.long sv), (.int sz), (.long (em + (1 : Int64)))]
set_option maxRecDepth 65536 in
set_option maxHeartbeats 40000000 in
theorem rm_addZ (l : Launch) (Z : State) (a0 : Array Value) (hw : ∀ d ∈ tables_1, d.before a0 Z = true) (ws : List Jvm.Cond) (a : Addr) (ln : Int32) (b : Addr) (sv : Int64) (sz : Int32) (em : Int64) (h0 : Heap) (n0 : Nat) (Z0 : n0 ≤ h0.size) (O0 : Obj Z h0 a "com/example/fourfold/fourfold/xdr/FragmentMap" sch_fm [(.ref b), (.long sv), (.int sz), (.long em)]) (ga : n0 ≤ a) (hz : ln = (0 : Int32)) :
    MetFree l (⟨"com/example/fourfold/fourfold/xdr/FragmentMap", "add", "(I)V"⟩ : MethodName) (head1 (Jvm.Cond.code (⟨"com/example/fourfold/fourfold/xdr/FragmentMap", "add", "(I)V"⟩ : MethodName) prog_88_method_3_code 2 none :: ws) ({ frames := 0, cells := 0, slots := 0, locals := 0 } : Room)) (fun a_ U => a_ = #[(.ref a), (.int ln)] ∧ Z.Warmed39 U.vm ∧ U.heap = h0) (fun _ _ _ _ _ => True) (fun _ U o U' => ∃ v_ L_, o = .returned v_ ∧ Q_addZ Z a b sv sz em h0 n0 v_ U'.heap L_ ∧ FrameEnd U o U' L_ ({ frames := 0, cells := 0, slots := 0, locals := 0 } : Room).cells ({ frames := 0, cells := 0, slots := 0, locals := 0 } : Room).slots) := by
  refine MetFree.of_bodySF (plainFor_of_name pn_4) hisR ?_
  intro p e s m args below meth c s₁ Bd hml0 hP hK
  obtain ⟨rfl, hZ, hh⟩ := hP
  have hx := Bd.exec
  have hby := Bd.bytes
  have hlk : meth.locks = false := Bd.notSynchronized
  have hml : c.maxLocals = 2 := hml0
  have hown : s.vm.findClass "com/example/fourfold/fourfold/xdr/FragmentMap" = some m.cls := findClass_of_methodNamed Bd.named
  have hnm := (name_of_methodNamed Bd.named Bd.method).1
  have X0 : Stand p l e ({ frames := 0, cells := 0, slots := 0, locals := 0 } : Room) s m #[(.ref a), (.int ln)] below meth c s₁ [] 0 0 := Stand.of_body Bd
  have e0 : s₁.heap = h0 := by rw [← hh, Bd.state]; rfl
  have N0 := Fr.nil n0
  have K0 : Keep h0 h0 [a] := Keep.refl _ _
  show OEnds p e below s (Q_addZ Z a b sv sz em h0 n0) _ _ _
  refine own_by (fun t k => castTop (ef_4 m a ln) k) ?_
  show OEnds p e below s _ _ _ (s₁.setTop (mkF m 0 #[.val (.ref a), .val (.int ln)] []))
  refine own_by (fun _ k => XS.iloadN X0.here hx rfl (hb hby d4_0) rfl k) ?_
  show OEnds p e below s _ _ _ (s₁.setTop (mkF m 1 #[.val (.ref a), .val (.int ln)] [(.int ln)]))
  refine own_by (fun _ k => XS.ifNo X0.here hx rfl (hb hby d4_1) rfl ((if0 _ _).trans (teq hz).2) k) ?_
  show OEnds p e below s _ _ _ (s₁.setTop (mkF m 4 #[.val (.ref a), .val (.int ln)] []))
  refine own_by (fun _ k => XS.aloadN X0.here hx rfl (hb hby d4_4) rfl rfl k) ?_
  show OEnds p e below s _ _ _ (s₁.setTop (mkF m 5 #[.val (.ref a), .val (.int ln)] [(.ref a)]))
  refine own_by (fun _ k => XS.dup X0.here hx rfl (hb hby d4_5) rfl rfl k) ?_
  show OEnds p e below s _ _ _ (s₁.setTop (mkF m 6 #[.val (.ref a), .val (.int ln)] [(.ref a), (.ref a)]))
  obtain ⟨T1, X1, e1, st1⟩ := getF X0 hx hZ hown (host := "") (Or.inl (hw _ (List.mem_of_getElem? (i := 23) rfl))) Via.refl e0 (O0.fld 3 rfl rfl) (g := (mkF m 6 #[.val (.ref a), .val (.int ln)] [(.ref a), (.ref a)])) rfl rfl (hb hby d4_6)
  refine own_by (st1) ?_
  show OEnds p e below s _ _ _ (T1.setTop (mkF m 9 #[.val (.ref a), .val (.int ln)] [(.long em), (.ref a)]))
  refine own_by (fun _ k => XS.lconst X1.here hx rfl (hb hby d4_9) k) ?_
  show OEnds p e below s _ _ _ (T1.setTop (mkF m 10 #[.val (.ref a), .val (.int ln)] [(.long (1 : Int64)), (.long em), (.ref a)]))
  refine own_by (fun _ k => XS.ladd X1.here hx rfl (hb hby d4_10) rfl k) ?_
  show OEnds p e below s _ _ _ (T1.setTop (mkF m 11 #[.val (.ref a), .val (.int ln)] [(.long (em + (1 : Int64))), (.ref a)]))
  obtain ⟨T2, h2, X2, e2, W2, st2⟩ := putF X1 hx hZ hown (host := "") (Or.inl (hw _ (List.mem_of_getElem? (i := 23) rfl))) Via.refl e1 (O0.fld 3 rfl rfl) O0.exa (Or.inl (hw _ (List.mem_of_getElem? (i := 24) rfl))) (hw _ (List.mem_of_getElem? (i := 3) rfl)) (ty := .long) (by decide) rfl rfl (g := (mkF m 11 #[.val (.ref a), .val (.int ln)] [(.long (em + (1 : Int64))), (.ref a)])) rfl rfl (hb hby d4_11)
  refine own_by (st2) ?_
  have O2 : Obj Z h2 a "com/example/fourfold/fourfold/xdr/FragmentMap" sch_fm [(.ref b), (.long sv), (.int sz), (.long (em + (1 : Int64)))] := O0.set (so_sch_fm hw) W2 3 rfl (Nat.le_of_ble_eq_true rfl)
  have N2 := Fr.snoc X2 N0 ga
  have Z2 : n0 ≤ h2.size := Nat.le_trans Z0 (Keep.of_wr W2).1
  have K2 : Keep h0 h2 [a] := K0.wr W2 (Or.inl (List.mem_of_getElem? (i := 0) rfl))
  show OEnds p e below s _ _ _ (T2.setTop (mkF m 14 #[.val (.ref a), .val (.int ln)] []))
  refine own_by (fun _ k => XS.goto X2.here hx rfl (pc0 := 14) (pc' := 55) rfl (hb hby d4_14) (by decide) (by decide) k) ?_
  show OEnds p e below s _ _ _ (T2.setTop (mkF m 55 #[.val (.ref a), .val (.int ln)] []))
  exact own_retV X2 hx hlk Bd.returns (hb hby d4_55) (by rw [e2]; exact ⟨rfl, N2, K2, O2⟩) (by decide) (by decide)
theorem d4_17 : decode prog_88_method_3_code 17 = .ok (.aload_n 0, 1) := by decide +kernel
theorem d4_18 : decode prog_88_method_3_code 18 = .ok (.getfield 21, 3) := by decide +kernel
theorem d4_21 : decode prog_88_method_3_code 21 = .ok (.lconst 0, 1) := by decide +kernel
theorem d4_22 : decode prog_88_method_3_code 22 = .ok (.lcmp, 1) := by decide +kernel
theorem d4_23 : decode prog_88_method_3_code 23 = .ok (.ifCond .le 17, 3) := by decide +kernel
theorem d4_40 : decode prog_88_method_3_code 40 = .ok (.aload_n 0, 1) := by decide +kernel
theorem d4_41 : decode prog_88_method_3_code 41 = .ok (.ldc2_w 24, 3) := by decide +kernel
theorem d4_44 : decode prog_88_method_3_code 44 = .ok (.iload_n 1, 1) := by decide +kernel
theorem d4_45 : decode prog_88_method_3_code 45 = .ok (.i2l, 1) := by decide +kernel
theorem d4_46 : decode prog_88_method_3_code 46 = .ok (.lmul, 1) := by decide +kernel
theorem d4_47 : decode prog_88_method_3_code 47 = .ok (.invokevirtual 26, 3) := by decide +kernel
theorem d4_50 : decode prog_88_method_3_code 50 = .ok (.aload_n 0, 1) := by decide +kernel
theorem d4_51 : decode prog_88_method_3_code 51 = .ok (.lconst 0, 1) := by decide +kernel
theorem d4_52 : decode prog_88_method_3_code 52 = .ok (.putfield 21, 3) := by decide +kernel
def Q_addN (Z : State) (a b : Addr) (sv : Int64) (f : Nat → Int32) (k u : Nat) (h0 : Heap) (n0 : Nat) (r : Option Value) (h : Heap) (L : List Loc) : Prop := r = none ∧ Fr n0 L ∧ Keep h0 h [a, b] ∧ ∃ bs : List Int32, Enc (2 * u) bs ∧ bs.length ≤ 5 ∧ ∃ sz : Int32, sz.toInt = ((k + bs.length : Nat) : Int) ∧ Obj Z h a "com/example/fourfold/fourfold/xdr/FragmentMap" sch_fm [(.ref b), (.long sv), (.int sz), (.long (0 : Int64))] ∧ FA Z h b .byte 16 (fun i => .int (wrs f k bs i))
set_option maxRecDepth 65536 in
set_option maxHeartbeats 40000000 in
theorem rm_addN (l : Launch) (Z : State) (a0 : Array Value) (hw : ∀ d ∈ tables_1, d.before a0 Z = true) (ws : List Jvm.Cond) (a : Addr) (ln : Int32) (b : Addr) (sv : Int64) (sz : Int32) (em : Int64) (f : Nat → Int32) (k : Nat) (u : Nat) (h0 : Heap) (n0 : Nat) (Z0 : n0 ≤ h0.size) (O0 : Obj Z h0 a "com/example/fourfold/fourfold/xdr/FragmentMap" sch_fm [(.ref b), (.long sv), (.int sz), (.long em)]) (F0 : FA Z h0 b .byte 16 (fun i => .int (f i))) (ga : n0 ≤ a) (gb : n0 ≤ b) (hk : sz.toInt = (k : Int)) (hroom : k + 5 ≤ 16) (hz : ¬ ln = (0 : Int32)) (hem : ¬ (0 : Int64) < em) (hu : ln.toInt = (u : Int)) (hub : u < 2147483648) :
    MetFree l (⟨"com/example/fourfold/fourfold/xdr/FragmentMap", "add", "(I)V"⟩ : MethodName) (head1 (Jvm.Cond.code (⟨"com/example/fourfold/fourfold/xdr/FragmentMap", "add", "(I)V"⟩ : MethodName) prog_88_method_3_code 2 none :: ws) ({ frames := 2, cells := 0, slots := 0, locals := 29 } : Room)) (fun a_ U => a_ = #[(.ref a), (.int ln)] ∧ Z.Warmed39 U.vm ∧ U.heap = h0) (fun _ _ _ _ _ => True) (fun _ U o U' => ∃ v_ L_, o = .returned v_ ∧ Q_addN Z a b sv f k u h0 n0 v_ U'.heap L_ ∧ FrameEnd U o U' L_ ({ frames := 2, cells := 0, slots := 0, locals := 29 } : Room).cells ({ frames := 2, cells := 0, slots := 0, locals := 29 } : Room).slots) := by
  refine MetFree.of_bodySF (plainFor_of_name pn_4) hisR ?_
  intro p e s m args below meth c s₁ Bd hml0 hP hK
  obtain ⟨rfl, hZ, hh⟩ := hP
  have hx := Bd.exec
  have hby := Bd.bytes
  have hlk : meth.locks = false := Bd.notSynchronized
  have hml : c.maxLocals = 2 := hml0
  have hown : s.vm.findClass "com/example/fourfold/fourfold/xdr/FragmentMap" = some m.cls := findClass_of_methodNamed Bd.named
  have hnm := (name_of_methodNamed Bd.named Bd.method).1
  have X0 : Stand p l e ({ frames := 2, cells := 0, slots := 0, locals := 29 } : Room) s m #[(.ref a), (.int ln)] below meth c s₁ [] 0 0 := Stand.of_body Bd
  have e0 : s₁.heap = h0 := by rw [← hh, Bd.state]; rfl
  have N0 := Fr.nil n0
  have K0 : Keep h0 h0 [a, b] := Keep.refl _ _
  show OEnds p e below s (Q_addN Z a b sv f k u h0 n0) _ _ _
  refine own_by (fun t k => castTop (ef_4 m a ln) k) ?_
  show OEnds p e below s _ _ _ (s₁.setTop (mkF m 0 #[.val (.ref a), .val (.int ln)] []))
  refine own_by (fun _ k => XS.iloadN X0.here hx rfl (hb hby d4_0) rfl k) ?_
  show OEnds p e below s _ _ _ (s₁.setTop (mkF m 1 #[.val (.ref a), .val (.int ln)] [(.int ln)]))
  refine own_by (fun _ k => XS.ifYes X0.here hx rfl (pc0 := 1) (pc' := 17) rfl (hb hby d4_1) rfl ((if0 _ _).trans (feq hz).2) (by decide) (by decide) k) ?_
  show OEnds p e below s _ _ _ (s₁.setTop (mkF m 17 #[.val (.ref a), .val (.int ln)] []))
  refine own_by (fun _ k => XS.aloadN X0.here hx rfl (hb hby d4_17) rfl rfl k) ?_
  show OEnds p e below s _ _ _ (s₁.setTop (mkF m 18 #[.val (.ref a), .val (.int ln)] [(.ref a)]))
  obtain ⟨T1, X1, e1, st1⟩ := getF X0 hx hZ hown (host := "") (Or.inl (hw _ (List.mem_of_getElem? (i := 23) rfl))) Via.refl e0 (O0.fld 3 rfl rfl) (g := (mkF m 18 #[.val (.ref a), .val (.int ln)] [(.ref a)])) rfl rfl (hb hby d4_18)
  refine own_by (st1) ?_
  show OEnds p e below s _ _ _ (T1.setTop (mkF m 21 #[.val (.ref a), .val (.int ln)] [(.long em)]))
  refine own_by (fun _ k => XS.lconst X1.here hx rfl (hb hby d4_21) k) ?_
  show OEnds p e below s _ _ _ (T1.setTop (mkF m 22 #[.val (.ref a), .val (.int ln)] [(.long (0 : Int64)), (.long em)]))
  refine own_by (fun _ k => XS.lcmp X1.here hx rfl (hb hby d4_22) rfl k) ?_
  show OEnds p e below s _ _ _ (T1.setTop (mkF m 23 #[.val (.ref a), .val (.int ln)] [(.int (lcmpW em (0 : Int64)))]))
  refine own_by (fun _ k => XS.ifYes X1.here hx rfl (pc0 := 23) (pc' := 40) rfl (hb hby d4_23) rfl ((if0 _ _).trans (flt (fun q => hem ((lw_gt _ _).mp q))).2.2.2) (by decide) (by decide) k) ?_
  show OEnds p e below s _ _ _ (T1.setTop (mkF m 40 #[.val (.ref a), .val (.int ln)] []))
  refine own_by (fun _ k => XS.aloadN X1.here hx rfl (hb hby d4_40) rfl rfl k) ?_
  show OEnds p e below s _ _ _ (T1.setTop (mkF m 41 #[.val (.ref a), .val (.int ln)] [(.ref a)]))
  refine own_by (X1.ldc2Long hx hown (mvT hZ (hw _ (List.mem_of_getElem? (i := 37) rfl))) (g := (mkF m 41 #[.val (.ref a), .val (.int ln)] [(.ref a)])) rfl (hb hby d4_41)) ?_
  show OEnds p e below s _ _ _ (T1.setTop (mkF m 44 #[.val (.ref a), .val (.int ln)] [(.long (2 : Int64)), (.ref a)]))
  refine own_by (fun _ k => XS.iloadN X1.here hx rfl (hb hby d4_44) rfl k) ?_
  show OEnds p e below s _ _ _ (T1.setTop (mkF m 45 #[.val (.ref a), .val (.int ln)] [(.int ln), (.long (2 : Int64)), (.ref a)]))
  refine own_by (fun _ k => XS.i2l X1.here hx rfl (hb hby d4_45) rfl k) ?_
  show OEnds p e below s _ _ _ (T1.setTop (mkF m 46 #[.val (.ref a), .val (.int ln)] [(.long (ln.toInt64)), (.long (2 : Int64)), (.ref a)]))
  refine own_by (fun _ k => XS.lmul X1.here hx rfl (hb hby d4_46) rfl k) ?_
  show OEnds p e below s _ _ _ (T1.setTop (mkF m 47 #[.val (.ref a), .val (.int ln)] [(.long ((2 : Int64) * (ln.toInt64))), (.ref a)]))
  obtain ⟨v2, T2, L2, h2, X2, e2, hQ2, st2⟩ := own_callX X1 hx hZ (y := (⟨"com/example/fourfold/fourfold/xdr/FragmentMap", "put", "(J)V"⟩ : MethodName)) hown (hw _ (List.mem_of_getElem? (i := 38) rfl)) (hw _ (List.mem_of_getElem? (i := 39) rfl)) (hw _ (List.mem_of_getElem? (i := 40) rfl)) (hw _ (List.mem_of_getElem? (i := 41) rfl)) (hw _ (List.mem_of_getElem? (i := 4) rfl)) (hw _ (List.mem_of_getElem? (i := 3) rfl)) (by decide) O0.exa (rm_put l Z a0 hw [] a ((2 : Int64) * (ln.toInt64)) b sv sz em f k (2 * u) h0 n0 Z0 O0 F0 ga gb hk hroom (twice hu (by omega)) (by omega)) e1 (g := (mkF m 47 #[.val (.ref a), .val (.int ln)] [(.long ((2 : Int64) * (ln.toInt64))), (.ref a)])) rfl (by rw [hml]; rfl) (argsL := [(.long ((2 : Int64) * (ln.toInt64)))]) (rest := []) (lenOf pd_pJrV rfl) rfl (W := 0) (by show 2 * 0 + _ ≤ _; exact Nat.le_of_eq rfl) (hb hby d4_47) (by decide) (by decide) (by decide) (by decide)
  obtain ⟨rfl, Nq2, Kq2, bs2, hE2, hbl2, sz2, hsz2, O2, F2⟩ := hQ2
  have N2 := Fr.app N0 Nq2
  have K2 : Keep h0 h2 [a, b] := K0.trans Kq2 (allS (Or.inl (List.mem_of_getElem? (i := 0) rfl)) (allS (Or.inl (List.mem_of_getElem? (i := 1) rfl)) all0))
  have Z2 : n0 ≤ h2.size := Nat.le_trans Z0 Kq2.1
  refine own_tr st2 ?_
  show OEnds p e below s _ _ _ (T2.setTop (mkF m 50 #[.val (.ref a), .val (.int ln)] []))
  refine own_by (fun _ k => XS.aloadN X2.here hx rfl (hb hby d4_50) rfl rfl k) ?_
  show OEnds p e below s _ _ _ (T2.setTop (mkF m 51 #[.val (.ref a), .val (.int ln)] [(.ref a)]))
  refine own_by (fun _ k => XS.lconst X2.here hx rfl (hb hby d4_51) k) ?_
  show OEnds p e below s _ _ _ (T2.setTop (mkF m 52 #[.val (.ref a), .val (.int ln)] [(.long (0 : Int64)), (.ref a)]))
  obtain ⟨T3, h3, X3, e3, W3, st3⟩ := putF X2 hx hZ hown (host := "") (Or.inl (hw _ (List.mem_of_getElem? (i := 23) rfl))) Via.refl e2 (O2.fld 3 rfl rfl) O2.exa (Or.inl (hw _ (List.mem_of_getElem? (i := 24) rfl))) (hw _ (List.mem_of_getElem? (i := 3) rfl)) (ty := .long) (by decide) rfl rfl (g := (mkF m 52 #[.val (.ref a), .val (.int ln)] [(.long (0 : Int64)), (.ref a)])) rfl rfl (hb hby d4_52)
  refine own_by (st3) ?_
  have O3 : Obj Z h3 a "com/example/fourfold/fourfold/xdr/FragmentMap" sch_fm [(.ref b), (.long sv), (.int sz2), (.long (0 : Int64))] := O2.set (so_sch_fm hw) W3 3 rfl (Nat.le_of_ble_eq_true rfl)
  have N3 := Fr.snoc X3 N2 ga
  have Z3 : n0 ≤ h3.size := Nat.le_trans Z2 (Keep.of_wr W3).1
  have K3 : Keep h0 h3 [a, b] := K2.wr W3 (Or.inl (List.mem_of_getElem? (i := 0) rfl))
  show OEnds p e below s _ _ _ (T3.setTop (mkF m 55 #[.val (.ref a), .val (.int ln)] []))
  have F4 : FA Z h3 b .byte 16 (fun i => .int ((wrs f k bs2) i)) := (F2.other W3 (Ne.symm (O2.ne_fa (hw _ (List.mem_of_getElem? (i := 3) rfl)) F2)))
  exact own_retV X3 hx hlk Bd.returns (hb hby d4_55) (by rw [e3]; exact ⟨rfl, N3, K3, bs2, hE2, hbl2, sz2, hsz2, O3, F4⟩) (by decide) (by decide)
theorem d5_26 : decode prog_88_method_4_code 26 = .ok (.aload_n 0, 1) := by decide +kernel
theorem d5_27 : decode prog_88_method_4_code 27 = .ok (.getfield 7, 3) := by decide +kernel
theorem d5_30 : decode prog_88_method_4_code 30 = .ok (.iload 7, 2) := by decide +kernel
theorem d5_32 : decode prog_88_method_4_code 32 = .ok (.iinc 7 1, 3) := by decide +kernel
theorem d5_35 : decode prog_88_method_4_code 35 = .ok (.baload, 1) := by decide +kernel
theorem d5_36 : decode prog_88_method_4_code 36 = .ok (.istore 11, 2) := by decide +kernel
theorem d5_38 : decode prog_88_method_4_code 38 = .ok (.lload 8, 2) := by decide +kernel
theorem d5_40 : decode prog_88_method_4_code 40 = .ok (.iload 11, 2) := by decide +kernel
theorem d5_42 : decode prog_88_method_4_code 42 = .ok (.bipush 127, 2) := by decide +kernel
theorem d5_44 : decode prog_88_method_4_code 44 = .ok (.iand, 1) := by decide +kernel
theorem d5_45 : decode prog_88_method_4_code 45 = .ok (.i2l, 1) := by decide +kernel
theorem d5_46 : decode prog_88_method_4_code 46 = .ok (.iload 10, 2) := by decide +kernel
theorem d5_48 : decode prog_88_method_4_code 48 = .ok (.lshl, 1) := by decide +kernel
theorem d5_49 : decode prog_88_method_4_code 49 = .ok (.lor, 1) := by decide +kernel
theorem d5_50 : decode prog_88_method_4_code 50 = .ok (.lstore 8, 2) := by decide +kernel
theorem d5_52 : decode prog_88_method_4_code 52 = .ok (.iinc 10 7, 3) := by decide +kernel
theorem d5_55 : decode prog_88_method_4_code 55 = .ok (.iload 11, 2) := by decide +kernel
theorem d5_57 : decode prog_88_method_4_code 57 = .ok (.ifCond .lt (-31), 3) := by decide +kernel
set_option maxRecDepth 65536 in
set_option maxHeartbeats 40000000 in
theorem in26 {p : Program} {l : Launch} {e : Env} {s : State} {m : MethodId} {args : Array Value} {below : List Frame} {meth : Method} {c : Code} {Z : State} {a0 : Array Value} {G : State → Prop} (hG : ∀ S S', (∀ t, Steps p.tables e below S' t → Steps p.tables e below S t) → G S' → G S) (hx : p.tables.exec = Jvm.exec) (hZ : Z.Warmed39 s.vm) (hw : ∀ d ∈ tables_1, d.before a0 Z = true) (hby : c.code = prog_88_method_4_code) (hml : c.maxLocals = 14) (hown : s.vm.findClass "com/example/fourfold/fourfold/xdr/FragmentMap" = some m.cls) (a : Addr) (of : Int64) (b : Addr) (sv : Int64) (sz : Int32) (em : Int64) (f : Nat → Int32) (nn : Nat) (at_ : Int64) (bf_ : Int64) (V0 : Nat) (pe : Nat) (s12 : Slot) (s13 : Slot) (h : Heap) : ∀ (bs : List Int32), ∀ (T : State) (lo : List Loc) (ij : Int32) (vl : Int64) (sh : Int32) (bx : Int32) (pj : Nat) (u : Nat) (low : Nat) (sk : Nat) (X : Stand p l e ({ frames := 0, cells := 0, slots := 0, locals := 0 } : Room) s m args below meth c T lo 0 0) (eT : T.heap = h) (O0 : Obj Z h a "com/example/fourfold/fourfold/xdr/FragmentMap" sch_fm [(.ref b), (.long sv), (.int sz), (.long em)]) (F0 : FA Z h b .byte nn (fun i => .int (f i))) (hij : ij.toInt = (pj : Int)) (hfb : ∀ j, j < bs.length → f (pj + j) = bs.getD j 0) (hEu : Enc u bs) (hval : vl.toInt = (low : Int)) (hsh : sh.toInt = (sk : Int)) (hlow : low < 2 ^ sk) (hV : V0 = low + u * 2 ^ sk) (hsk : sk + 7 * bs.length ≤ 35) (hpe : pj + bs.length = pe) (hpn : pe ≤ nn) (hnn : nn ≤ 1000) (kk : ∀ (T' : State) (vx : Int64) (sx bx : Int32) (ix : Int32), Stand p l e ({ frames := 0, cells := 0, slots := 0, locals := 0 } : Room) s m args below meth c T' lo 0 0 → T'.heap = h → vx.toInt = (V0 : Int) → ix.toInt = ((pe : Nat) : Int) → G (T'.setTop (mkF m 60 #[.val (.ref a), .val (.long of), .second, .val (.long at_), .second, .val (.long bf_), .second, .val (.int ix), .val (.long vx), .second, .val (.int sx), .val (.int bx), s12, s13] []))), G (T.setTop (mkF m 26 #[.val (.ref a), .val (.long of), .second, .val (.long at_), .second, .val (.long bf_), .second, .val (.int ij), .val (.long vl), .second, .val (.int sh), .val (.int bx), s12, s13] [])) := by
  intro bs
  induction bs with
  | nil =>
    intro T lo ij vl sh bx pj u low sk X eT O0 F0 hij hfb hEu hval hsh hlow hV hsk hpe hpn hnn kk
    exact absurd hEu (by simp [Enc])
  | cons b0 bs ih =>
    intro T lo ij vl sh bx pj u low sk X eT O0 F0 hij hfb hEu hval hsh hlow hV hsk hpe hpn hnn kk
    have hf0 : f pj = b0 := by simpa using hfb 0 (by simp)
    have hb31 : pj < 2147483647 := by simp only [List.length_cons] at hpe; omega
    have hs28 : sk ≤ 28 := by simp only [List.length_cons] at hsk; omega
    rcases hEu with ⟨hu0, hb0, rfl⟩ | ⟨hu0, hb0, hE1⟩
    · have hsg : ¬ (f pj) < (0 : Int32) := by rw [hf0]; exact byte_ge hb0
      show G (T.setTop (mkF m 26 #[.val (.ref a), .val (.long of), .second, .val (.long at_), .second, .val (.long bf_), .second, .val (.int ij), .val (.long vl), .second, .val (.int sh), .val (.int bx), s12, s13] []))
      refine hG _ _ (fun _ k => XS.aloadN X.here hx rfl (hb hby d5_26) rfl rfl k) ?_
      show G (T.setTop (mkF m 27 #[.val (.ref a), .val (.long of), .second, .val (.long at_), .second, .val (.long bf_), .second, .val (.int ij), .val (.long vl), .second, .val (.int sh), .val (.int bx), s12, s13] [(.ref a)]))
      obtain ⟨T1, X1, e1, st1⟩ := getF X hx hZ hown (host := "") (Or.inl (hw _ (List.mem_of_getElem? (i := 12) rfl))) Via.refl eT (O0.fld 0 rfl rfl) (g := (mkF m 27 #[.val (.ref a), .val (.long of), .second, .val (.long at_), .second, .val (.long bf_), .second, .val (.int ij), .val (.long vl), .second, .val (.int sh), .val (.int bx), s12, s13] [(.ref a)])) rfl rfl (hb hby d5_27)
      refine hG _ _ (st1) ?_
      show G (T1.setTop (mkF m 30 #[.val (.ref a), .val (.long of), .second, .val (.long at_), .second, .val (.long bf_), .second, .val (.int ij), .val (.long vl), .second, .val (.int sh), .val (.int bx), s12, s13] [(.ref b)]))
      refine hG _ _ (fun _ k => XS.iload X1.here hx rfl (hb hby d5_30) rfl k) ?_
      show G (T1.setTop (mkF m 32 #[.val (.ref a), .val (.long of), .second, .val (.long at_), .second, .val (.long bf_), .second, .val (.int ij), .val (.long vl), .second, .val (.int sh), .val (.int bx), s12, s13] [(.int ij), (.ref b)]))
      refine hG _ _ (fun _ k => XS.iinc X1.here hx rfl (hb hby d5_32) rfl (l' := #[.val (.ref a), .val (.long of), .second, .val (.long at_), .second, .val (.long bf_), .second, .val (.int (ij + (1 : Int32))), .val (.long vl), .second, .val (.int sh), .val (.int bx), s12, s13]) rfl k) ?_
      show G (T1.setTop (mkF m 35 #[.val (.ref a), .val (.long of), .second, .val (.long at_), .second, .val (.long bf_), .second, .val (.int (ij + (1 : Int32))), .val (.long vl), .second, .val (.int sh), .val (.int bx), s12, s13] [(.int ij), (.ref b)]))
      refine hG _ _ (own_baload X1 hx hZ e1 F0 pj hij (by simp only [List.length_cons] at hpe; omega) rfl (g := (mkF m 35 #[.val (.ref a), .val (.long of), .second, .val (.long at_), .second, .val (.long bf_), .second, .val (.int (ij + (1 : Int32))), .val (.long vl), .second, .val (.int sh), .val (.int bx), s12, s13] [(.int ij), (.ref b)])) rfl rfl (hb hby d5_35)) ?_
      show G (T1.setTop (mkF m 36 #[.val (.ref a), .val (.long of), .second, .val (.long at_), .second, .val (.long bf_), .second, .val (.int (ij + (1 : Int32))), .val (.long vl), .second, .val (.int sh), .val (.int bx), s12, s13] [(.int (f pj))]))
      refine hG _ _ (fun _ k => XS.istore X1.here hx rfl (hb hby d5_36) rfl (l' := #[.val (.ref a), .val (.long of), .second, .val (.long at_), .second, .val (.long bf_), .second, .val (.int (ij + (1 : Int32))), .val (.long vl), .second, .val (.int sh), .val (.int (f pj)), s12, s13]) rfl k) ?_
      show G (T1.setTop (mkF m 38 #[.val (.ref a), .val (.long of), .second, .val (.long at_), .second, .val (.long bf_), .second, .val (.int (ij + (1 : Int32))), .val (.long vl), .second, .val (.int sh), .val (.int (f pj)), s12, s13] []))
      refine hG _ _ (fun _ k => XS.lload X1.here hx rfl (hb hby d5_38) rfl k) ?_
      show G (T1.setTop (mkF m 40 #[.val (.ref a), .val (.long of), .second, .val (.long at_), .second, .val (.long bf_), .second, .val (.int (ij + (1 : Int32))), .val (.long vl), .second, .val (.int sh), .val (.int (f pj)), s12, s13] [(.long vl)]))
      refine hG _ _ (fun _ k => XS.iload X1.here hx rfl (hb hby d5_40) rfl k) ?_
      show G (T1.setTop (mkF m 42 #[.val (.ref a), .val (.long of), .second, .val (.long at_), .second, .val (.long bf_), .second, .val (.int (ij + (1 : Int32))), .val (.long vl), .second, .val (.int sh), .val (.int (f pj)), s12, s13] [(.int (f pj)), (.long vl)]))
      refine hG _ _ (fun _ k => XS.bipush X1.here hx rfl (hb hby d5_42) k) ?_
      show G (T1.setTop (mkF m 44 #[.val (.ref a), .val (.long of), .second, .val (.long at_), .second, .val (.long bf_), .second, .val (.int (ij + (1 : Int32))), .val (.long vl), .second, .val (.int sh), .val (.int (f pj)), s12, s13] [(.int (127 : Int32)), (.int (f pj)), (.long vl)]))
      refine hG _ _ (fun _ k => XS.iand X1.here hx rfl (hb hby d5_44) rfl k) ?_
      show G (T1.setTop (mkF m 45 #[.val (.ref a), .val (.long of), .second, .val (.long at_), .second, .val (.long bf_), .second, .val (.int (ij + (1 : Int32))), .val (.long vl), .second, .val (.int sh), .val (.int (f pj)), s12, s13] [(.int ((f pj) &&& (127 : Int32))), (.long vl)]))
      refine hG _ _ (fun _ k => XS.i2l X1.here hx rfl (hb hby d5_45) rfl k) ?_
      show G (T1.setTop (mkF m 46 #[.val (.ref a), .val (.long of), .second, .val (.long at_), .second, .val (.long bf_), .second, .val (.int (ij + (1 : Int32))), .val (.long vl), .second, .val (.int sh), .val (.int (f pj)), s12, s13] [(.long (((f pj) &&& (127 : Int32)).toInt64)), (.long vl)]))
      refine hG _ _ (fun _ k => XS.iload X1.here hx rfl (hb hby d5_46) rfl k) ?_
      show G (T1.setTop (mkF m 48 #[.val (.ref a), .val (.long of), .second, .val (.long at_), .second, .val (.long bf_), .second, .val (.int (ij + (1 : Int32))), .val (.long vl), .second, .val (.int sh), .val (.int (f pj)), s12, s13] [(.int sh), (.long (((f pj) &&& (127 : Int32)).toInt64)), (.long vl)]))
      refine hG _ _ (fun _ k => XS.lshl X1.here hx rfl (hb hby d5_48) rfl k) ?_
      show G (T1.setTop (mkF m 49 #[.val (.ref a), .val (.long of), .second, .val (.long at_), .second, .val (.long bf_), .second, .val (.int (ij + (1 : Int32))), .val (.long vl), .second, .val (.int sh), .val (.int (f pj)), s12, s13] [(.long ((((f pj) &&& (127 : Int32)).toInt64) <<< (sh &&& 0x3f).toInt64)), (.long vl)]))
      refine hG _ _ (fun _ k => XS.lor X1.here hx rfl (hb hby d5_49) rfl k) ?_
      show G (T1.setTop (mkF m 50 #[.val (.ref a), .val (.long of), .second, .val (.long at_), .second, .val (.long bf_), .second, .val (.int (ij + (1 : Int32))), .val (.long vl), .second, .val (.int sh), .val (.int (f pj)), s12, s13] [(.long (vl ||| ((((f pj) &&& (127 : Int32)).toInt64) <<< (sh &&& 0x3f).toInt64)))]))
      refine hG _ _ (fun _ k => XS.lstore X1.here hx rfl (hb hby d5_50) rfl (l' := #[.val (.ref a), .val (.long of), .second, .val (.long at_), .second, .val (.long bf_), .second, .val (.int (ij + (1 : Int32))), .val (.long (vl ||| ((((f pj) &&& (127 : Int32)).toInt64) <<< (sh &&& 0x3f).toInt64))), .second, .val (.int sh), .val (.int (f pj)), s12, s13]) rfl k) ?_
      show G (T1.setTop (mkF m 52 #[.val (.ref a), .val (.long of), .second, .val (.long at_), .second, .val (.long bf_), .second, .val (.int (ij + (1 : Int32))), .val (.long (vl ||| ((((f pj) &&& (127 : Int32)).toInt64) <<< (sh &&& 0x3f).toInt64))), .second, .val (.int sh), .val (.int (f pj)), s12, s13] []))
      refine hG _ _ (fun _ k => XS.iinc X1.here hx rfl (hb hby d5_52) rfl (l' := #[.val (.ref a), .val (.long of), .second, .val (.long at_), .second, .val (.long bf_), .second, .val (.int (ij + (1 : Int32))), .val (.long (vl ||| ((((f pj) &&& (127 : Int32)).toInt64) <<< (sh &&& 0x3f).toInt64))), .second, .val (.int (sh + (7 : Int32))), .val (.int (f pj)), s12, s13]) rfl k) ?_
      show G (T1.setTop (mkF m 55 #[.val (.ref a), .val (.long of), .second, .val (.long at_), .second, .val (.long bf_), .second, .val (.int (ij + (1 : Int32))), .val (.long (vl ||| ((((f pj) &&& (127 : Int32)).toInt64) <<< (sh &&& 0x3f).toInt64))), .second, .val (.int (sh + (7 : Int32))), .val (.int (f pj)), s12, s13] []))
      refine hG _ _ (fun _ k => XS.iload X1.here hx rfl (hb hby d5_55) rfl k) ?_
      show G (T1.setTop (mkF m 57 #[.val (.ref a), .val (.long of), .second, .val (.long at_), .second, .val (.long bf_), .second, .val (.int (ij + (1 : Int32))), .val (.long (vl ||| ((((f pj) &&& (127 : Int32)).toInt64) <<< (sh &&& 0x3f).toInt64))), .second, .val (.int (sh + (7 : Int32))), .val (.int (f pj)), s12, s13] [(.int (f pj))]))
      refine hG _ _ (fun _ k => XS.ifNo X1.here hx rfl (hb hby d5_57) rfl ((if0 _ _).trans (flt hsg).1) k) ?_
      show G (T1.setTop (mkF m 60 #[.val (.ref a), .val (.long of), .second, .val (.long at_), .second, .val (.long bf_), .second, .val (.int (ij + (1 : Int32))), .val (.long (vl ||| ((((f pj) &&& (127 : Int32)).toInt64) <<< (sh &&& 0x3f).toInt64))), .second, .val (.int (sh + (7 : Int32))), .val (.int (f pj)), s12, s13] []))
      exact kk T1 (vl ||| ((((f pj) &&& (127 : Int32)).toInt64) <<< (sh &&& 0x3f).toInt64)) (sh + (7 : Int32)) (f pj) (ij + (1 : Int32)) X1 e1 (dec_last hval hsh hlow hs28 hf0 hb0 hu0 hV) (inc_last hij hb31 hpe)
    · have hsg : (f pj) < (0 : Int32) := by rw [hf0]; exact byte_lt hb0
      show G (T.setTop (mkF m 26 #[.val (.ref a), .val (.long of), .second, .val (.long at_), .second, .val (.long bf_), .second, .val (.int ij), .val (.long vl), .second, .val (.int sh), .val (.int bx), s12, s13] []))
      refine hG _ _ (fun _ k => XS.aloadN X.here hx rfl (hb hby d5_26) rfl rfl k) ?_
      show G (T.setTop (mkF m 27 #[.val (.ref a), .val (.long of), .second, .val (.long at_), .second, .val (.long bf_), .second, .val (.int ij), .val (.long vl), .second, .val (.int sh), .val (.int bx), s12, s13] [(.ref a)]))
      obtain ⟨T2, X2, e2, st2⟩ := getF X hx hZ hown (host := "") (Or.inl (hw _ (List.mem_of_getElem? (i := 12) rfl))) Via.refl eT (O0.fld 0 rfl rfl) (g := (mkF m 27 #[.val (.ref a), .val (.long of), .second, .val (.long at_), .second, .val (.long bf_), .second, .val (.int ij), .val (.long vl), .second, .val (.int sh), .val (.int bx), s12, s13] [(.ref a)])) rfl rfl (hb hby d5_27)
      refine hG _ _ (st2) ?_
      show G (T2.setTop (mkF m 30 #[.val (.ref a), .val (.long of), .second, .val (.long at_), .second, .val (.long bf_), .second, .val (.int ij), .val (.long vl), .second, .val (.int sh), .val (.int bx), s12, s13] [(.ref b)]))
      refine hG _ _ (fun _ k => XS.iload X2.here hx rfl (hb hby d5_30) rfl k) ?_
      show G (T2.setTop (mkF m 32 #[.val (.ref a), .val (.long of), .second, .val (.long at_), .second, .val (.long bf_), .second, .val (.int ij), .val (.long vl), .second, .val (.int sh), .val (.int bx), s12, s13] [(.int ij), (.ref b)]))
      refine hG _ _ (fun _ k => XS.iinc X2.here hx rfl (hb hby d5_32) rfl (l' := #[.val (.ref a), .val (.long of), .second, .val (.long at_), .second, .val (.long bf_), .second, .val (.int (ij + (1 : Int32))), .val (.long vl), .second, .val (.int sh), .val (.int bx), s12, s13]) rfl k) ?_
      show G (T2.setTop (mkF m 35 #[.val (.ref a), .val (.long of), .second, .val (.long at_), .second, .val (.long bf_), .second, .val (.int (ij + (1 : Int32))), .val (.long vl), .second, .val (.int sh), .val (.int bx), s12, s13] [(.int ij), (.ref b)]))
      refine hG _ _ (own_baload X2 hx hZ e2 F0 pj hij (by simp only [List.length_cons] at hpe; omega) rfl (g := (mkF m 35 #[.val (.ref a), .val (.long of), .second, .val (.long at_), .second, .val (.long bf_), .second, .val (.int (ij + (1 : Int32))), .val (.long vl), .second, .val (.int sh), .val (.int bx), s12, s13] [(.int ij), (.ref b)])) rfl rfl (hb hby d5_35)) ?_
      show G (T2.setTop (mkF m 36 #[.val (.ref a), .val (.long of), .second, .val (.long at_), .second, .val (.long bf_), .second, .val (.int (ij + (1 : Int32))), .val (.long vl), .second, .val (.int sh), .val (.int bx), s12, s13] [(.int (f pj))]))
      refine hG _ _ (fun _ k => XS.istore X2.here hx rfl (hb hby d5_36) rfl (l' := #[.val (.ref a), .val (.long of), .second, .val (.long at_), .second, .val (.long bf_), .second, .val (.int (ij + (1 : Int32))), .val (.long vl), .second, .val (.int sh), .val (.int (f pj)), s12, s13]) rfl k) ?_
      show G (T2.setTop (mkF m 38 #[.val (.ref a), .val (.long of), .second, .val (.long at_), .second, .val (.long bf_), .second, .val (.int (ij + (1 : Int32))), .val (.long vl), .second, .val (.int sh), .val (.int (f pj)), s12, s13] []))
      refine hG _ _ (fun _ k => XS.lload X2.here hx rfl (hb hby d5_38) rfl k) ?_
      show G (T2.setTop (mkF m 40 #[.val (.ref a), .val (.long of), .second, .val (.long at_), .second, .val (.long bf_), .second, .val (.int (ij + (1 : Int32))), .val (.long vl), .second, .val (.int sh), .val (.int (f pj)), s12, s13] [(.long vl)]))
      refine hG _ _ (fun _ k => XS.iload X2.here hx rfl (hb hby d5_40) rfl k) ?_
      show G (T2.setTop (mkF m 42 #[.val (.ref a), .val (.long of), .second, .val (.long at_), .second, .val (.long bf_), .second, .val (.int (ij + (1 : Int32))), .val (.long vl), .second, .val (.int sh), .val (.int (f pj)), s12, s13] [(.int (f pj)), (.long vl)]))
      refine hG _ _ (fun _ k => XS.bipush X2.here hx rfl (hb hby d5_42) k) ?_
      show G (T2.setTop (mkF m 44 #[.val (.ref a), .val (.long of), .second, .val (.long at_), .second, .val (.long bf_), .second, .val (.int (ij + (1 : Int32))), .val (.long vl), .second, .val (.int sh), .val (.int (f pj)), s12, s13] [(.int (127 : Int32)), (.int (f pj)), (.long vl)]))
      refine hG _ _ (fun _ k => XS.iand X2.here hx rfl (hb hby d5_44) rfl k) ?_
      show G (T2.setTop (mkF m 45 #[.val (.ref a), .val (.long of), .second, .val (.long at_), .second, .val (.long bf_), .second, .val (.int (ij + (1 : Int32))), .val (.long vl), .second, .val (.int sh), .val (.int (f pj)), s12, s13] [(.int ((f pj) &&& (127 : Int32))), (.long vl)]))
      refine hG _ _ (fun _ k => XS.i2l X2.here hx rfl (hb hby d5_45) rfl k) ?_
      show G (T2.setTop (mkF m 46 #[.val (.ref a), .val (.long of), .second, .val (.long at_), .second, .val (.long bf_), .second, .val (.int (ij + (1 : Int32))), .val (.long vl), .second, .val (.int sh), .val (.int (f pj)), s12, s13] [(.long (((f pj) &&& (127 : Int32)).toInt64)), (.long vl)]))
      refine hG _ _ (fun _ k => XS.iload X2.here hx rfl (hb hby d5_46) rfl k) ?_
      show G (T2.setTop (mkF m 48 #[.val (.ref a), .val (.long of), .second, .val (.long at_), .second, .val (.long bf_), .second, .val (.int (ij + (1 : Int32))), .val (.long vl), .second, .val (.int sh), .val (.int (f pj)), s12, s13] [(.int sh), (.long (((f pj) &&& (127 : Int32)).toInt64)), (.long vl)]))
      refine hG _ _ (fun _ k => XS.lshl X2.here hx rfl (hb hby d5_48) rfl k) ?_
      show G (T2.setTop (mkF m 49 #[.val (.ref a), .val (.long of), .second, .val (.long at_), .second, .val (.long bf_), .second, .val (.int (ij + (1 : Int32))), .val (.long vl), .second, .val (.int sh), .val (.int (f pj)), s12, s13] [(.long ((((f pj) &&& (127 : Int32)).toInt64) <<< (sh &&& 0x3f).toInt64)), (.long vl)]))
      refine hG _ _ (fun _ k => XS.lor X2.here hx rfl (hb hby d5_49) rfl k) ?_
      show G (T2.setTop (mkF m 50 #[.val (.ref a), .val (.long of), .second, .val (.long at_), .second, .val (.long bf_), .second, .val (.int (ij + (1 : Int32))), .val (.long vl), .second, .val (.int sh), .val (.int (f pj)), s12, s13] [(.long (vl ||| ((((f pj) &&& (127 : Int32)).toInt64) <<< (sh &&& 0x3f).toInt64)))]))
      refine hG _ _ (fun _ k => XS.lstore X2.here hx rfl (hb hby d5_50) rfl (l' := #[.val (.ref a), .val (.long of), .second, .val (.long at_), .second, .val (.long bf_), .second, .val (.int (ij + (1 : Int32))), .val (.long (vl ||| ((((f pj) &&& (127 : Int32)).toInt64) <<< (sh &&& 0x3f).toInt64))), .second, .val (.int sh), .val (.int (f pj)), s12, s13]) rfl k) ?_
      show G (T2.setTop (mkF m 52 #[.val (.ref a), .val (.long of), .second, .val (.long at_), .second, .val (.long bf_), .second, .val (.int (ij + (1 : Int32))), .val (.long (vl ||| ((((f pj) &&& (127 : Int32)).toInt64) <<< (sh &&& 0x3f).toInt64))), .second, .val (.int sh), .val (.int (f pj)), s12, s13] []))
      refine hG _ _ (fun _ k => XS.iinc X2.here hx rfl (hb hby d5_52) rfl (l' := #[.val (.ref a), .val (.long of), .second, .val (.long at_), .second, .val (.long bf_), .second, .val (.int (ij + (1 : Int32))), .val (.long (vl ||| ((((f pj) &&& (127 : Int32)).toInt64) <<< (sh &&& 0x3f).toInt64))), .second, .val (.int (sh + (7 : Int32))), .val (.int (f pj)), s12, s13]) rfl k) ?_
      show G (T2.setTop (mkF m 55 #[.val (.ref a), .val (.long of), .second, .val (.long at_), .second, .val (.long bf_), .second, .val (.int (ij + (1 : Int32))), .val (.long (vl ||| ((((f pj) &&& (127 : Int32)).toInt64) <<< (sh &&& 0x3f).toInt64))), .second, .val (.int (sh + (7 : Int32))), .val (.int (f pj)), s12, s13] []))
      refine hG _ _ (fun _ k => XS.iload X2.here hx rfl (hb hby d5_55) rfl k) ?_
      show G (T2.setTop (mkF m 57 #[.val (.ref a), .val (.long of), .second, .val (.long at_), .second, .val (.long bf_), .second, .val (.int (ij + (1 : Int32))), .val (.long (vl ||| ((((f pj) &&& (127 : Int32)).toInt64) <<< (sh &&& 0x3f).toInt64))), .second, .val (.int (sh + (7 : Int32))), .val (.int (f pj)), s12, s13] [(.int (f pj))]))
      refine hG _ _ (fun _ k => XS.ifYes X2.here hx rfl (pc0 := 57) (pc' := 26) rfl (hb hby d5_57) rfl ((if0 _ _).trans (tlt hsg).1) (by decide) (by decide) k) ?_
      show G (T2.setTop (mkF m 26 #[.val (.ref a), .val (.long of), .second, .val (.long at_), .second, .val (.long bf_), .second, .val (.int (ij + (1 : Int32))), .val (.long (vl ||| ((((f pj) &&& (127 : Int32)).toInt64) <<< (sh &&& 0x3f).toInt64))), .second, .val (.int (sh + (7 : Int32))), .val (.int (f pj)), s12, s13] []))
      exact ih T2 lo (ij + (1 : Int32)) (vl ||| ((((f pj) &&& (127 : Int32)).toInt64) <<< (sh &&& 0x3f).toInt64)) (sh + (7 : Int32)) (f pj) (pj + 1) (u / 128) (low + (u % 128) * 2 ^ sk) (sk + 7) X2 e2 O0 F0 (inc_mid hij hb31) (fun j hj => by have := hfb (j + 1) (by simp; omega); simp only [List.getD_cons_succ] at this; rw [← this]; congr 1; omega) hE1 (dec_mid hval hsh hlow hs28 hf0 hb0) (sh_mid hsh hs28) (low_mid hlow) (dec_V hV) (by simp only [List.length_cons] at hsk; omega) (by simp only [List.length_cons] at hpe; omega) hpn hnn kk
set_option maxRecDepth 65536 in
set_option maxHeartbeats 40000000 in
theorem in26u {p : Program} {l : Launch} {e : Env} {s : State} {m : MethodId} {args : Array Value} {below : List Frame} {meth : Method} {c : Code} {Z : State} {a0 : Array Value} {G : State → Prop} (hG : ∀ S S', (∀ t, Steps p.tables e below S' t → Steps p.tables e below S t) → G S' → G S) (hx : p.tables.exec = Jvm.exec) (hZ : Z.Warmed39 s.vm) (hw : ∀ d ∈ tables_1, d.before a0 Z = true) (hby : c.code = prog_88_method_4_code) (hml : c.maxLocals = 14) (hown : s.vm.findClass "com/example/fourfold/fourfold/xdr/FragmentMap" = some m.cls) (a : Addr) (of : Int64) (b : Addr) (sv : Int64) (sz : Int32) (em : Int64) (f : Nat → Int32) (nn : Nat) (at_ : Int64) (bf_ : Int64) (V0 : Nat) (pe : Nat) (s12 : Slot) (s13 : Slot) (b0 : Int32) (bs : List Int32) (h : Heap) : ∀ (T : State) (lo : List Loc) (ij : Int32) (vl : Int64) (sh : Int32) (pj : Nat) (u : Nat) (low : Nat) (sk : Nat) (X : Stand p l e ({ frames := 0, cells := 0, slots := 0, locals := 0 } : Room) s m args below meth c T lo 0 0) (eT : T.heap = h) (O0 : Obj Z h a "com/example/fourfold/fourfold/xdr/FragmentMap" sch_fm [(.ref b), (.long sv), (.int sz), (.long em)]) (F0 : FA Z h b .byte nn (fun i => .int (f i))) (hij : ij.toInt = (pj : Int)) (hfb : ∀ j, j < (b0 :: bs).length → f (pj + j) = (b0 :: bs).getD j 0) (hEu : Enc u (b0 :: bs)) (hval : vl.toInt = (low : Int)) (hsh : sh.toInt = (sk : Int)) (hlow : low < 2 ^ sk) (hV : V0 = low + u * 2 ^ sk) (hsk : sk + 7 * (b0 :: bs).length ≤ 35) (hpe : pj + (b0 :: bs).length = pe) (hpn : pe ≤ nn) (hnn : nn ≤ 1000) (kk : ∀ (T' : State) (vx : Int64) (sx bx : Int32) (ix : Int32), Stand p l e ({ frames := 0, cells := 0, slots := 0, locals := 0 } : Room) s m args below meth c T' lo 0 0 → T'.heap = h → vx.toInt = (V0 : Int) → ix.toInt = ((pe : Nat) : Int) → G (T'.setTop (mkF m 60 #[.val (.ref a), .val (.long of), .second, .val (.long at_), .second, .val (.long bf_), .second, .val (.int ix), .val (.long vx), .second, .val (.int sx), .val (.int bx), s12, s13] []))), G (T.setTop (mkF m 26 #[.val (.ref a), .val (.long of), .second, .val (.long at_), .second, .val (.long bf_), .second, .val (.int ij), .val (.long vl), .second, .val (.int sh), .unset, s12, s13] [])) := by
  intro T lo ij vl sh pj u low sk X eT O0 F0 hij hfb hEu hval hsh hlow hV hsk hpe hpn hnn kk
  have hf0 : f pj = b0 := by simpa using hfb 0 (by simp)
  have hb31 : pj < 2147483647 := by simp only [List.length_cons] at hpe; omega
  have hs28 : sk ≤ 28 := by simp only [List.length_cons] at hsk; omega
  rcases hEu with ⟨hu0, hb0, rfl⟩ | ⟨hu0, hb0, hE1⟩
  · have hsg : ¬ (f pj) < (0 : Int32) := by rw [hf0]; exact byte_ge hb0
    show G (T.setTop (mkF m 26 #[.val (.ref a), .val (.long of), .second, .val (.long at_), .second, .val (.long bf_), .second, .val (.int ij), .val (.long vl), .second, .val (.int sh), .unset, s12, s13] []))
    refine hG _ _ (fun _ k => XS.aloadN X.here hx rfl (hb hby d5_26) rfl rfl k) ?_
    show G (T.setTop (mkF m 27 #[.val (.ref a), .val (.long of), .second, .val (.long at_), .second, .val (.long bf_), .second, .val (.int ij), .val (.long vl), .second, .val (.int sh), .unset, s12, s13] [(.ref a)]))
    obtain ⟨T1, X1, e1, st1⟩ := getF X hx hZ hown (host := "") (Or.inl (hw _ (List.mem_of_getElem? (i := 12) rfl))) Via.refl eT (O0.fld 0 rfl rfl) (g := (mkF m 27 #[.val (.ref a), .val (.long of), .second, .val (.long at_), .second, .val (.long bf_), .second, .val (.int ij), .val (.long vl), .second, .val (.int sh), .unset, s12, s13] [(.ref a)])) rfl rfl (hb hby d5_27)
    refine hG _ _ (st1) ?_
    show G (T1.setTop (mkF m 30 #[.val (.ref a), .val (.long of), .second, .val (.long at_), .second, .val (.long bf_), .second, .val (.int ij), .val (.long vl), .second, .val (.int sh), .unset, s12, s13] [(.ref b)]))
    refine hG _ _ (fun _ k => XS.iload X1.here hx rfl (hb hby d5_30) rfl k) ?_
    show G (T1.setTop (mkF m 32 #[.val (.ref a), .val (.long of), .second, .val (.long at_), .second, .val (.long bf_), .second, .val (.int ij), .val (.long vl), .second, .val (.int sh), .unset, s12, s13] [(.int ij), (.ref b)]))
    refine hG _ _ (fun _ k => XS.iinc X1.here hx rfl (hb hby d5_32) rfl (l' := #[.val (.ref a), .val (.long of), .second, .val (.long at_), .second, .val (.long bf_), .second, .val (.int (ij + (1 : Int32))), .val (.long vl), .second, .val (.int sh), .unset, s12, s13]) rfl k) ?_
    show G (T1.setTop (mkF m 35 #[.val (.ref a), .val (.long of), .second, .val (.long at_), .second, .val (.long bf_), .second, .val (.int (ij + (1 : Int32))), .val (.long vl), .second, .val (.int sh), .unset, s12, s13] [(.int ij), (.ref b)]))
    refine hG _ _ (own_baload X1 hx hZ e1 F0 pj hij (by simp only [List.length_cons] at hpe; omega) rfl (g := (mkF m 35 #[.val (.ref a), .val (.long of), .second, .val (.long at_), .second, .val (.long bf_), .second, .val (.int (ij + (1 : Int32))), .val (.long vl), .second, .val (.int sh), .unset, s12, s13] [(.int ij), (.ref b)])) rfl rfl (hb hby d5_35)) ?_
    show G (T1.setTop (mkF m 36 #[.val (.ref a), .val (.long of), .second, .val (.long at_), .second, .val (.long bf_), .second, .val (.int (ij + (1 : Int32))), .val (.long vl), .second, .val (.int sh), .unset, s12, s13] [(.int (f pj))]))
    refine hG _ _ (fun _ k => XS.istore X1.here hx rfl (hb hby d5_36) rfl (l' := #[.val (.ref a), .val (.long of), .second, .val (.long at_), .second, .val (.long bf_), .second, .val (.int (ij + (1 : Int32))), .val (.long vl), .second, .val (.int sh), .val (.int (f pj)), s12, s13]) rfl k) ?_
    show G (T1.setTop (mkF m 38 #[.val (.ref a), .val (.long of), .second, .val (.long at_), .second, .val (.long bf_), .second, .val (.int (ij + (1 : Int32))), .val (.long vl), .second, .val (.int sh), .val (.int (f pj)), s12, s13] []))
    refine hG _ _ (fun _ k => XS.lload X1.here hx rfl (hb hby d5_38) rfl k) ?_
    show G (T1.setTop (mkF m 40 #[.val (.ref a), .val (.long of), .second, .val (.long at_), .second, .val (.long bf_), .second, .val (.int (ij + (1 : Int32))), .val (.long vl), .second, .val (.int sh), .val (.int (f pj)), s12, s13] [(.long vl)]))
    refine hG _ _ (fun _ k => XS.iload X1.here hx rfl (hb hby d5_40) rfl k) ?_
    show G (T1.setTop (mkF m 42 #[.val (.ref a), .val (.long of), .second, .val (.long at_), .second, .val (.long bf_), .second, .val (.int (ij + (1 : Int32))), .val (.long vl), .second, .val (.int sh), .val (.int (f pj)), s12, s13] [(.int (f pj)), (.long vl)]))
    refine hG _ _ (fun _ k => XS.bipush X1.here hx rfl (hb hby d5_42) k) ?_
    show G (T1.setTop (mkF m 44 #[.val (.ref a), .val (.long of), .second, .val (.long at_), .second, .val (.long bf_), .second, .val (.int (ij + (1 : Int32))), .val (.long vl), .second, .val (.int sh), .val (.int (f pj)), s12, s13] [(.int (127 : Int32)), (.int (f pj)), (.long vl)]))
    refine hG _ _ (fun _ k => XS.iand X1.here hx rfl (hb hby d5_44) rfl k) ?_
    show G (T1.setTop (mkF m 45 #[.val (.ref a), .val (.long of), .second, .val (.long at_), .second, .val (.long bf_), .second, .val (.int (ij + (1 : Int32))), .val (.long vl), .second, .val (.int sh), .val (.int (f pj)), s12, s13] [(.int ((f pj) &&& (127 : Int32))), (.long vl)]))
    refine hG _ _ (fun _ k => XS.i2l X1.here hx rfl (hb hby d5_45) rfl k) ?_
    show G (T1.setTop (mkF m 46 #[.val (.ref a), .val (.long of), .second, .val (.long at_), .second, .val (.long bf_), .second, .val (.int (ij + (1 : Int32))), .val (.long vl), .second, .val (.int sh), .val (.int (f pj)), s12, s13] [(.long (((f pj) &&& (127 : Int32)).toInt64)), (.long vl)]))
    refine hG _ _ (fun _ k => XS.iload X1.here hx rfl (hb hby d5_46) rfl k) ?_
    show G (T1.setTop (mkF m 48 #[.val (.ref a), .val (.long of), .second, .val (.long at_), .second, .val (.long bf_), .second, .val (.int (ij + (1 : Int32))), .val (.long vl), .second, .val (.int sh), .val (.int (f pj)), s12, s13] [(.int sh), (.long (((f pj) &&& (127 : Int32)).toInt64)), (.long vl)]))
    refine hG _ _ (fun _ k => XS.lshl X1.here hx rfl (hb hby d5_48) rfl k) ?_
    show G (T1.setTop (mkF m 49 #[.val (.ref a), .val (.long of), .second, .val (.long at_), .second, .val (.long bf_), .second, .val (.int (ij + (1 : Int32))), .val (.long vl), .second, .val (.int sh), .val (.int (f pj)), s12, s13] [(.long ((((f pj) &&& (127 : Int32)).toInt64) <<< (sh &&& 0x3f).toInt64)), (.long vl)]))
    refine hG _ _ (fun _ k => XS.lor X1.here hx rfl (hb hby d5_49) rfl k) ?_
    show G (T1.setTop (mkF m 50 #[.val (.ref a), .val (.long of), .second, .val (.long at_), .second, .val (.long bf_), .second, .val (.int (ij + (1 : Int32))), .val (.long vl), .second, .val (.int sh), .val (.int (f pj)), s12, s13] [(.long (vl ||| ((((f pj) &&& (127 : Int32)).toInt64) <<< (sh &&& 0x3f).toInt64)))]))
    refine hG _ _ (fun _ k => XS.lstore X1.here hx rfl (hb hby d5_50) rfl (l' := #[.val (.ref a), .val (.long of), .second, .val (.long at_), .second, .val (.long bf_), .second, .val (.int (ij + (1 : Int32))), .val (.long (vl ||| ((((f pj) &&& (127 : Int32)).toInt64) <<< (sh &&& 0x3f).toInt64))), .second, .val (.int sh), .val (.int (f pj)), s12, s13]) rfl k) ?_
    show G (T1.setTop (mkF m 52 #[.val (.ref a), .val (.long of), .second, .val (.long at_), .second, .val (.long bf_), .second, .val (.int (ij + (1 : Int32))), .val (.long (vl ||| ((((f pj) &&& (127 : Int32)).toInt64) <<< (sh &&& 0x3f).toInt64))), .second, .val (.int sh), .val (.int (f pj)), s12, s13] []))
    refine hG _ _ (fun _ k => XS.iinc X1.here hx rfl (hb hby d5_52) rfl (l' := #[.val (.ref a), .val (.long of), .second, .val (.long at_), .second, .val (.long bf_), .second, .val (.int (ij + (1 : Int32))), .val (.long (vl ||| ((((f pj) &&& (127 : Int32)).toInt64) <<< (sh &&& 0x3f).toInt64))), .second, .val (.int (sh + (7 : Int32))), .val (.int (f pj)), s12, s13]) rfl k) ?_
    show G (T1.setTop (mkF m 55 #[.val (.ref a), .val (.long of), .second, .val (.long at_), .second, .val (.long bf_), .second, .val (.int (ij + (1 : Int32))), .val (.long (vl ||| ((((f pj) &&& (127 : Int32)).toInt64) <<< (sh &&& 0x3f).toInt64))), .second, .val (.int (sh + (7 : Int32))), .val (.int (f pj)), s12, s13] []))
    refine hG _ _ (fun _ k => XS.iload X1.here hx rfl (hb hby d5_55) rfl k) ?_
    show G (T1.setTop (mkF m 57 #[.val (.ref a), .val (.long of), .second, .val (.long at_), .second, .val (.long bf_), .second, .val (.int (ij + (1 : Int32))), .val (.long (vl ||| ((((f pj) &&& (127 : Int32)).toInt64) <<< (sh &&& 0x3f).toInt64))), .second, .val (.int (sh + (7 : Int32))), .val (.int (f pj)), s12, s13] [(.int (f pj))]))
    refine hG _ _ (fun _ k => XS.ifNo X1.here hx rfl (hb hby d5_57) rfl ((if0 _ _).trans (flt hsg).1) k) ?_
    show G (T1.setTop (mkF m 60 #[.val (.ref a), .val (.long of), .second, .val (.long at_), .second, .val (.long bf_), .second, .val (.int (ij + (1 : Int32))), .val (.long (vl ||| ((((f pj) &&& (127 : Int32)).toInt64) <<< (sh &&& 0x3f).toInt64))), .second, .val (.int (sh + (7 : Int32))), .val (.int (f pj)), s12, s13] []))
    exact kk T1 (vl ||| ((((f pj) &&& (127 : Int32)).toInt64) <<< (sh &&& 0x3f).toInt64)) (sh + (7 : Int32)) (f pj) (ij + (1 : Int32)) X1 e1 (dec_last hval hsh hlow hs28 hf0 hb0 hu0 hV) (inc_last hij hb31 hpe)
  · have hsg : (f pj) < (0 : Int32) := by rw [hf0]; exact byte_lt hb0
    show G (T.setTop (mkF m 26 #[.val (.ref a), .val (.long of), .second, .val (.long at_), .second, .val (.long bf_), .second, .val (.int ij), .val (.long vl), .second, .val (.int sh), .unset, s12, s13] []))
    refine hG _ _ (fun _ k => XS.aloadN X.here hx rfl (hb hby d5_26) rfl rfl k) ?_
    show G (T.setTop (mkF m 27 #[.val (.ref a), .val (.long of), .second, .val (.long at_), .second, .val (.long bf_), .second, .val (.int ij), .val (.long vl), .second, .val (.int sh), .unset, s12, s13] [(.ref a)]))
    obtain ⟨T2, X2, e2, st2⟩ := getF X hx hZ hown (host := "") (Or.inl (hw _ (List.mem_of_getElem? (i := 12) rfl))) Via.refl eT (O0.fld 0 rfl rfl) (g := (mkF m 27 #[.val (.ref a), .val (.long of), .second, .val (.long at_), .second, .val (.long bf_), .second, .val (.int ij), .val (.long vl), .second, .val (.int sh), .unset, s12, s13] [(.ref a)])) rfl rfl (hb hby d5_27)
    refine hG _ _ (st2) ?_
    show G (T2.setTop (mkF m 30 #[.val (.ref a), .val (.long of), .second, .val (.long at_), .second, .val (.long bf_), .second, .val (.int ij), .val (.long vl), .second, .val (.int sh), .unset, s12, s13] [(.ref b)]))
    refine hG _ _ (fun _ k => XS.iload X2.here hx rfl (hb hby d5_30) rfl k) ?_
    show G (T2.setTop (mkF m 32 #[.val (.ref a), .val (.long of), .second, .val (.long at_), .second, .val (.long bf_), .second, .val (.int ij), .val (.long vl), .second, .val (.int sh), .unset, s12, s13] [(.int ij), (.ref b)]))
    refine hG _ _ (fun _ k => XS.iinc X2.here hx rfl (hb hby d5_32) rfl (l' := #[.val (.ref a), .val (.long of), .second, .val (.long at_), .second, .val (.long bf_), .second, .val (.int (ij + (1 : Int32))), .val (.long vl), .second, .val (.int sh), .unset, s12, s13]) rfl k) ?_
    show G (T2.setTop (mkF m 35 #[.val (.ref a), .val (.long of), .second, .val (.long at_), .second, .val (.long bf_), .second, .val (.int (ij + (1 : Int32))), .val (.long vl), .second, .val (.int sh), .unset, s12, s13] [(.int ij), (.ref b)]))
    refine hG _ _ (own_baload X2 hx hZ e2 F0 pj hij (by simp only [List.length_cons] at hpe; omega) rfl (g := (mkF m 35 #[.val (.ref a), .val (.long of), .second, .val (.long at_), .second, .val (.long bf_), .second, .val (.int (ij + (1 : Int32))), .val (.long vl), .second, .val (.int sh), .unset, s12, s13] [(.int ij), (.ref b)])) rfl rfl (hb hby d5_35)) ?_
    show G (T2.setTop (mkF m 36 #[.val (.ref a), .val (.long of), .second, .val (.long at_), .second, .val (.long bf_), .second, .val (.int (ij + (1 : Int32))), .val (.long vl), .second, .val (.int sh), .unset, s12, s13] [(.int (f pj))]))
    refine hG _ _ (fun _ k => XS.istore X2.here hx rfl (hb hby d5_36) rfl (l' := #[.val (.ref a), .val (.long of), .second, .val (.long at_), .second, .val (.long bf_), .second, .val (.int (ij + (1 : Int32))), .val (.long vl), .second, .val (.int sh), .val (.int (f pj)), s12, s13]) rfl k) ?_
    show G (T2.setTop (mkF m 38 #[.val (.ref a), .val (.long of), .second, .val (.long at_), .second, .val (.long bf_), .second, .val (.int (ij + (1 : Int32))), .val (.long vl), .second, .val (.int sh), .val (.int (f pj)), s12, s13] []))
    refine hG _ _ (fun _ k => XS.lload X2.here hx rfl (hb hby d5_38) rfl k) ?_
    show G (T2.setTop (mkF m 40 #[.val (.ref a), .val (.long of), .second, .val (.long at_), .second, .val (.long bf_), .second, .val (.int (ij + (1 : Int32))), .val (.long vl), .second, .val (.int sh), .val (.int (f pj)), s12, s13] [(.long vl)]))
    refine hG _ _ (fun _ k => XS.iload X2.here hx rfl (hb hby d5_40) rfl k) ?_
    show G (T2.setTop (mkF m 42 #[.val (.ref a), .val (.long of), .second, .val (.long at_), .second, .val (.long bf_), .second, .val (.int (ij + (1 : Int32))), .val (.long vl), .second, .val (.int sh), .val (.int (f pj)), s12, s13] [(.int (f pj)), (.long vl)]))
    refine hG _ _ (fun _ k => XS.bipush X2.here hx rfl (hb hby d5_42) k) ?_
    show G (T2.setTop (mkF m 44 #[.val (.ref a), .val (.long of), .second, .val (.long at_), .second, .val (.long bf_), .second, .val (.int (ij + (1 : Int32))), .val (.long vl), .second, .val (.int sh), .val (.int (f pj)), s12, s13] [(.int (127 : Int32)), (.int (f pj)), (.long vl)]))
    refine hG _ _ (fun _ k => XS.iand X2.here hx rfl (hb hby d5_44) rfl k) ?_
    show G (T2.setTop (mkF m 45 #[.val (.ref a), .val (.long of), .second, .val (.long at_), .second, .val (.long bf_), .second, .val (.int (ij + (1 : Int32))), .val (.long vl), .second, .val (.int sh), .val (.int (f pj)), s12, s13] [(.int ((f pj) &&& (127 : Int32))), (.long vl)]))
    refine hG _ _ (fun _ k => XS.i2l X2.here hx rfl (hb hby d5_45) rfl k) ?_
    show G (T2.setTop (mkF m 46 #[.val (.ref a), .val (.long of), .second, .val (.long at_), .second, .val (.long bf_), .second, .val (.int (ij + (1 : Int32))), .val (.long vl), .second, .val (.int sh), .val (.int (f pj)), s12, s13] [(.long (((f pj) &&& (127 : Int32)).toInt64)), (.long vl)]))
    refine hG _ _ (fun _ k => XS.iload X2.here hx rfl (hb hby d5_46) rfl k) ?_
    show G (T2.setTop (mkF m 48 #[.val (.ref a), .val (.long of), .second, .val (.long at_), .second, .val (.long bf_), .second, .val (.int (ij + (1 : Int32))), .val (.long vl), .second, .val (.int sh), .val (.int (f pj)), s12, s13] [(.int sh), (.long (((f pj) &&& (127 : Int32)).toInt64)), (.long vl)]))
    refine hG _ _ (fun _ k => XS.lshl X2.here hx rfl (hb hby d5_48) rfl k) ?_
    show G (T2.setTop (mkF m 49 #[.val (.ref a), .val (.long of), .second, .val (.long at_), .second, .val (.long bf_), .second, .val (.int (ij + (1 : Int32))), .val (.long vl), .second, .val (.int sh), .val (.int (f pj)), s12, s13] [(.long ((((f pj) &&& (127 : Int32)).toInt64) <<< (sh &&& 0x3f).toInt64)), (.long vl)]))
    refine hG _ _ (fun _ k => XS.lor X2.here hx rfl (hb hby d5_49) rfl k) ?_
    show G (T2.setTop (mkF m 50 #[.val (.ref a), .val (.long of), .second, .val (.long at_), .second, .val (.long bf_), .second, .val (.int (ij + (1 : Int32))), .val (.long vl), .second, .val (.int sh), .val (.int (f pj)), s12, s13] [(.long (vl ||| ((((f pj) &&& (127 : Int32)).toInt64) <<< (sh &&& 0x3f).toInt64)))]))
    refine hG _ _ (fun _ k => XS.lstore X2.here hx rfl (hb hby d5_50) rfl (l' := #[.val (.ref a), .val (.long of), .second, .val (.long at_), .second, .val (.long bf_), .second, .val (.int (ij + (1 : Int32))), .val (.long (vl ||| ((((f pj) &&& (127 : Int32)).toInt64) <<< (sh &&& 0x3f).toInt64))), .second, .val (.int sh), .val (.int (f pj)), s12, s13]) rfl k) ?_
    show G (T2.setTop (mkF m 52 #[.val (.ref a), .val (.long of), .second, .val (.long at_), .second, .val (.long bf_), .second, .val (.int (ij + (1 : Int32))), .val (.long (vl ||| ((((f pj) &&& (127 : Int32)).toInt64) <<< (sh &&& 0x3f).toInt64))), .second, .val (.int sh), .val (.int (f pj)), s12, s13] []))
    refine hG _ _ (fun _ k => XS.iinc X2.here hx rfl (hb hby d5_52) rfl (l' := #[.val (.ref a), .val (.long of), .second, .val (.long at_), .second, .val (.long bf_), .second, .val (.int (ij + (1 : Int32))), .val (.long (vl ||| ((((f pj) &&& (127 : Int32)).toInt64) <<< (sh &&& 0x3f).toInt64))), .second, .val (.int (sh + (7 : Int32))), .val (.int (f pj)), s12, s13]) rfl k) ?_
    show G (T2.setTop (mkF m 55 #[.val (.ref a), .val (.long of), .second, .val (.long at_), .second, .val (.long bf_), .second, .val (.int (ij + (1 : Int32))), .val (.long (vl ||| ((((f pj) &&& (127 : Int32)).toInt64) <<< (sh &&& 0x3f).toInt64))), .second, .val (.int (sh + (7 : Int32))), .val (.int (f pj)), s12, s13] []))
    refine hG _ _ (fun _ k => XS.iload X2.here hx rfl (hb hby d5_55) rfl k) ?_
    show G (T2.setTop (mkF m 57 #[.val (.ref a), .val (.long of), .second, .val (.long at_), .second, .val (.long bf_), .second, .val (.int (ij + (1 : Int32))), .val (.long (vl ||| ((((f pj) &&& (127 : Int32)).toInt64) <<< (sh &&& 0x3f).toInt64))), .second, .val (.int (sh + (7 : Int32))), .val (.int (f pj)), s12, s13] [(.int (f pj))]))
    refine hG _ _ (fun _ k => XS.ifYes X2.here hx rfl (pc0 := 57) (pc' := 26) rfl (hb hby d5_57) rfl ((if0 _ _).trans (tlt hsg).1) (by decide) (by decide) k) ?_
    show G (T2.setTop (mkF m 26 #[.val (.ref a), .val (.long of), .second, .val (.long at_), .second, .val (.long bf_), .second, .val (.int (ij + (1 : Int32))), .val (.long (vl ||| ((((f pj) &&& (127 : Int32)).toInt64) <<< (sh &&& 0x3f).toInt64))), .second, .val (.int (sh + (7 : Int32))), .val (.int (f pj)), s12, s13] []))
    exact in26 hG hx hZ hw hby hml hown a of b sv sz em f nn at_ bf_ V0 pe s12 s13 h bs T2 lo (ij + (1 : Int32)) (vl ||| ((((f pj) &&& (127 : Int32)).toInt64) <<< (sh &&& 0x3f).toInt64)) (sh + (7 : Int32)) (f pj) (pj + 1) (u / 128) (low + (u % 128) * 2 ^ sk) (sk + 7) X2 e2 O0 F0 (inc_mid hij hb31) (fun j hj => by have := hfb (j + 1) (by simp; omega); simp only [List.getD_cons_succ] at this; rw [← this]; congr 1; omega) hE1 (dec_mid hval hsh hlow hs28 hf0 hb0) (sh_mid hsh hs28) (low_mid hlow) (dec_V hV) (by simp only [List.length_cons] at hsk; omega) (by simp only [List.length_cons] at hpe; omega) hpn hnn kk
theorem d5_0 : decode prog_88_method_4_code 0 = .ok (.aload_n 0, 1) := by decide +kernel
theorem d5_1 : decode prog_88_method_4_code 1 = .ok (.getfield 13, 3) := by decide +kernel
theorem d5_4 : decode prog_88_method_4_code 4 = .ok (.lstore_n 3, 1) := by decide +kernel
theorem d5_5 : decode prog_88_method_4_code 5 = .ok (.lconst 0, 1) := by decide +kernel
theorem d5_6 : decode prog_88_method_4_code 6 = .ok (.lstore 5, 2) := by decide +kernel
theorem d5_8 : decode prog_88_method_4_code 8 = .ok (.iconst 0, 1) := by decide +kernel
theorem d5_9 : decode prog_88_method_4_code 9 = .ok (.istore 7, 2) := by decide +kernel
theorem d5_11 : decode prog_88_method_4_code 11 = .ok (.iload 7, 2) := by decide +kernel
theorem d5_13 : decode prog_88_method_4_code 13 = .ok (.aload_n 0, 1) := by decide +kernel
theorem d5_14 : decode prog_88_method_4_code 14 = .ok (.getfield 17, 3) := by decide +kernel
theorem d5_17 : decode prog_88_method_4_code 17 = .ok (.if_icmp .ge 110, 3) := by decide +kernel
theorem d5_20 : decode prog_88_method_4_code 20 = .ok (.lconst 0, 1) := by decide +kernel
theorem d5_21 : decode prog_88_method_4_code 21 = .ok (.lstore 8, 2) := by decide +kernel
theorem d5_23 : decode prog_88_method_4_code 23 = .ok (.iconst 0, 1) := by decide +kernel
theorem d5_24 : decode prog_88_method_4_code 24 = .ok (.istore 10, 2) := by decide +kernel
theorem d5_60 : decode prog_88_method_4_code 60 = .ok (.lload 8, 2) := by decide +kernel
theorem d5_62 : decode prog_88_method_4_code 62 = .ok (.iconst 1, 1) := by decide +kernel
theorem d5_63 : decode prog_88_method_4_code 63 = .ok (.lushr, 1) := by decide +kernel
theorem d5_64 : decode prog_88_method_4_code 64 = .ok (.lstore 12, 2) := by decide +kernel
theorem d5_66 : decode prog_88_method_4_code 66 = .ok (.lload 8, 2) := by decide +kernel
theorem d5_68 : decode prog_88_method_4_code 68 = .ok (.lconst 1, 1) := by decide +kernel
theorem d5_69 : decode prog_88_method_4_code 69 = .ok (.land, 1) := by decide +kernel
theorem d5_70 : decode prog_88_method_4_code 70 = .ok (.lconst 0, 1) := by decide +kernel
theorem d5_71 : decode prog_88_method_4_code 71 = .ok (.lcmp, 1) := by decide +kernel
theorem d5_72 : decode prog_88_method_4_code 72 = .ok (.ifCond .eq 15, 3) := by decide +kernel
theorem d5_75 : decode prog_88_method_4_code 75 = .ok (.lload_n 3, 1) := by decide +kernel
theorem d5_76 : decode prog_88_method_4_code 76 = .ok (.lload 12, 2) := by decide +kernel
theorem d5_78 : decode prog_88_method_4_code 78 = .ok (.ldc2_w 32, 3) := by decide +kernel
theorem d5_81 : decode prog_88_method_4_code 81 = .ok (.lmul, 1) := by decide +kernel
theorem d5_82 : decode prog_88_method_4_code 82 = .ok (.ladd, 1) := by decide +kernel
theorem d5_83 : decode prog_88_method_4_code 83 = .ok (.lstore_n 3, 1) := by decide +kernel
theorem d5_84 : decode prog_88_method_4_code 84 = .ok (.goto 40, 3) := by decide +kernel
theorem d5_87 : decode prog_88_method_4_code 87 = .ok (.lload_n 1, 1) := by decide +kernel
theorem d5_88 : decode prog_88_method_4_code 88 = .ok (.lload 5, 2) := by decide +kernel
theorem d5_90 : decode prog_88_method_4_code 90 = .ok (.lload 12, 2) := by decide +kernel
theorem d5_92 : decode prog_88_method_4_code 92 = .ok (.ladd, 1) := by decide +kernel
theorem d5_93 : decode prog_88_method_4_code 93 = .ok (.lcmp, 1) := by decide +kernel
theorem d5_94 : decode prog_88_method_4_code 94 = .ok (.ifCond .ge 14, 3) := by decide +kernel
theorem d5_97 : decode prog_88_method_4_code 97 = .ok (.lload_n 3, 1) := by decide +kernel
theorem d5_98 : decode prog_88_method_4_code 98 = .ok (.ldc2_w 32, 3) := by decide +kernel
theorem d5_101 : decode prog_88_method_4_code 101 = .ok (.ladd, 1) := by decide +kernel
theorem d5_102 : decode prog_88_method_4_code 102 = .ok (.lload_n 1, 1) := by decide +kernel
theorem d5_103 : decode prog_88_method_4_code 103 = .ok (.ladd, 1) := by decide +kernel
theorem d5_104 : decode prog_88_method_4_code 104 = .ok (.lload 5, 2) := by decide +kernel
theorem d5_106 : decode prog_88_method_4_code 106 = .ok (.lsub, 1) := by decide +kernel
theorem d5_107 : decode prog_88_method_4_code 107 = .ok (.lreturn, 1) := by decide +kernel
theorem d5_108 : decode prog_88_method_4_code 108 = .ok (.lload_n 3, 1) := by decide +kernel
theorem d5_109 : decode prog_88_method_4_code 109 = .ok (.ldc2_w 32, 3) := by decide +kernel
theorem d5_112 : decode prog_88_method_4_code 112 = .ok (.lload 12, 2) := by decide +kernel
theorem d5_114 : decode prog_88_method_4_code 114 = .ok (.ladd, 1) := by decide +kernel
theorem d5_115 : decode prog_88_method_4_code 115 = .ok (.ladd, 1) := by decide +kernel
theorem d5_116 : decode prog_88_method_4_code 116 = .ok (.lstore_n 3, 1) := by decide +kernel
theorem d5_117 : decode prog_88_method_4_code 117 = .ok (.lload 5, 2) := by decide +kernel
theorem d5_119 : decode prog_88_method_4_code 119 = .ok (.lload 12, 2) := by decide +kernel
theorem d5_121 : decode prog_88_method_4_code 121 = .ok (.ladd, 1) := by decide +kernel
theorem d5_122 : decode prog_88_method_4_code 122 = .ok (.lstore 5, 2) := by decide +kernel
theorem d5_124 : decode prog_88_method_4_code 124 = .ok (.goto (-113), 3) := by decide +kernel
theorem d5_127 : decode prog_88_method_4_code 127 = .ok (.lload_n 3, 1) := by decide +kernel
theorem d5_128 : decode prog_88_method_4_code 128 = .ok (.aload_n 0, 1) := by decide +kernel
theorem d5_129 : decode prog_88_method_4_code 129 = .ok (.getfield 21, 3) := by decide +kernel
theorem d5_132 : decode prog_88_method_4_code 132 = .ok (.ldc2_w 32, 3) := by decide +kernel
theorem d5_135 : decode prog_88_method_4_code 135 = .ok (.lmul, 1) := by decide +kernel
theorem d5_136 : decode prog_88_method_4_code 136 = .ok (.ladd, 1) := by decide +kernel
theorem d5_137 : decode prog_88_method_4_code 137 = .ok (.lreturn, 1) := by decide +kernel
theorem pn_5 : plainName "com/example/fourfold/fourfold/xdr/FragmentMap" = true := by first | (simp [plainName, overriddenIn]; done) | decide +kernel
theorem ef_5 (m : MethodId) (x0 : Addr) (x1 : Int64) : entryFrame m #[(.ref x0), (.long x1)] 14 = mkF m 0 #[.val (.ref x0), .val (.long x1), .second, .unset, .unset, .unset, .unset, .unset, .unset, .unset, .unset, .unset, .unset, .unset] [] := by first | (simp [entryFrame, mkF, argsToLocals, Value.category]; done) | rfl
set_option maxRecDepth 65536 in
set_option maxHeartbeats 40000000 in
theorem rm_inStream (l : Launch) (Z : State) (a0 : Array Value) (hw : ∀ d ∈ tables_1, d.before a0 Z = true) (ws : List Jvm.Cond) (a : Addr) (of : Int64) (b : Addr) (sv : Int64) (sz : Int32) (em : Int64) (f : Nat → Int32) (nn : Nat) (k : Nat) (vs0 : List Nat) (h0 : Heap) (n0 : Nat) (Z0 : n0 ≤ h0.size) (O0 : Obj Z h0 a "com/example/fourfold/fourfold/xdr/FragmentMap" sch_fm [(.ref b), (.long sv), (.int sz), (.long em)]) (F0 : FA Z h0 b .byte nn (fun i => .int (f i))) (hk : sz.toInt = (k : Int)) (hEn0 : EncAt f 0 vs0 k) (hkn : k ≤ nn) (hnn : nn ≤ 1000) :
    MetFree l (⟨"com/example/fourfold/fourfold/xdr/FragmentMap", "inStream", "(J)J"⟩ : MethodName) (head1 (Jvm.Cond.code (⟨"com/example/fourfold/fourfold/xdr/FragmentMap", "inStream", "(J)J"⟩ : MethodName) prog_88_method_4_code 14 (some .long) :: ws) ({ frames := 0, cells := 0, slots := 0, locals := 0 } : Room)) (fun a_ U => a_ = #[(.ref a), (.long of)] ∧ Z.Warmed39 U.vm ∧ U.heap = h0) (fun _ _ _ _ _ => True) (fun _ U o U' => ∃ v_ L_, o = .returned v_ ∧ QP (.long (scanF vs0 sv (0 : Int64) of em)) h0 v_ U'.heap L_ ∧ FrameEnd U o U' L_ ({ frames := 0, cells := 0, slots := 0, locals := 0 } : Room).cells ({ frames := 0, cells := 0, slots := 0, locals := 0 } : Room).slots) := by
  refine MetFree.of_bodySF (plainFor_of_name pn_5) hisR ?_
  intro p e s m args below meth c s₁ Bd hml0 hP hK
  obtain ⟨rfl, hZ, hh⟩ := hP
  have hx := Bd.exec
  have hby := Bd.bytes
  have hlk : meth.locks = false := Bd.notSynchronized
  have hml : c.maxLocals = 14 := hml0
  have hown : s.vm.findClass "com/example/fourfold/fourfold/xdr/FragmentMap" = some m.cls := findClass_of_methodNamed Bd.named
  have hnm := (name_of_methodNamed Bd.named Bd.method).1
  have X0 : Stand p l e ({ frames := 0, cells := 0, slots := 0, locals := 0 } : Room) s m #[(.ref a), (.long of)] below meth c s₁ [] 0 0 := Stand.of_body Bd
  have e0 : s₁.heap = h0 := by rw [← hh, Bd.state]; rfl
  have N0 := Fr.nil n0
  have K0 : Keep h0 h0 [] := Keep.refl _ _
  show OEnds p e below s (QP (.long (scanF vs0 sv (0 : Int64) of em)) h0) _ _ _
  refine own_by (fun t k => castTop (ef_5 m a of) k) ?_
  show OEnds p e below s _ _ _ (s₁.setTop (mkF m 0 #[.val (.ref a), .val (.long of), .second, .unset, .unset, .unset, .unset, .unset, .unset, .unset, .unset, .unset, .unset, .unset] []))
  refine own_by (fun _ k => XS.aloadN X0.here hx rfl (hb hby d5_0) rfl rfl k) ?_
  show OEnds p e below s _ _ _ (s₁.setTop (mkF m 1 #[.val (.ref a), .val (.long of), .second, .unset, .unset, .unset, .unset, .unset, .unset, .unset, .unset, .unset, .unset, .unset] [(.ref a)]))
  obtain ⟨T1, X1, e1, st1⟩ := getF X0 hx hZ hown (host := "") (Or.inl (hw _ (List.mem_of_getElem? (i := 19) rfl))) Via.refl e0 (O0.fld 1 rfl rfl) (g := (mkF m 1 #[.val (.ref a), .val (.long of), .second, .unset, .unset, .unset, .unset, .unset, .unset, .unset, .unset, .unset, .unset, .unset] [(.ref a)])) rfl rfl (hb hby d5_1)
  refine own_by (st1) ?_
  show OEnds p e below s _ _ _ (T1.setTop (mkF m 4 #[.val (.ref a), .val (.long of), .second, .unset, .unset, .unset, .unset, .unset, .unset, .unset, .unset, .unset, .unset, .unset] [(.long sv)]))
  refine own_by (fun _ k => XS.lstoreN X1.here hx rfl (hb hby d5_4) rfl (l' := #[.val (.ref a), .val (.long of), .second, .val (.long sv), .second, .unset, .unset, .unset, .unset, .unset, .unset, .unset, .unset, .unset]) rfl k) ?_
  show OEnds p e below s _ _ _ (T1.setTop (mkF m 5 #[.val (.ref a), .val (.long of), .second, .val (.long sv), .second, .unset, .unset, .unset, .unset, .unset, .unset, .unset, .unset, .unset] []))
  refine own_by (fun _ k => XS.lconst X1.here hx rfl (hb hby d5_5) k) ?_
  show OEnds p e below s _ _ _ (T1.setTop (mkF m 6 #[.val (.ref a), .val (.long of), .second, .val (.long sv), .second, .unset, .unset, .unset, .unset, .unset, .unset, .unset, .unset, .unset] [(.long (0 : Int64))]))
  refine own_by (fun _ k => XS.lstore X1.here hx rfl (hb hby d5_6) rfl (l' := #[.val (.ref a), .val (.long of), .second, .val (.long sv), .second, .val (.long (0 : Int64)), .second, .unset, .unset, .unset, .unset, .unset, .unset, .unset]) rfl k) ?_
  show OEnds p e below s _ _ _ (T1.setTop (mkF m 8 #[.val (.ref a), .val (.long of), .second, .val (.long sv), .second, .val (.long (0 : Int64)), .second, .unset, .unset, .unset, .unset, .unset, .unset, .unset] []))
  refine own_by (fun _ k => XS.iconst X1.here hx rfl (hb hby d5_8) k) ?_
  show OEnds p e below s _ _ _ (T1.setTop (mkF m 9 #[.val (.ref a), .val (.long of), .second, .val (.long sv), .second, .val (.long (0 : Int64)), .second, .unset, .unset, .unset, .unset, .unset, .unset, .unset] [(.int (0 : Int32))]))
  refine own_by (fun _ k => XS.istore X1.here hx rfl (hb hby d5_9) rfl (l' := #[.val (.ref a), .val (.long of), .second, .val (.long sv), .second, .val (.long (0 : Int64)), .second, .val (.int (0 : Int32)), .unset, .unset, .unset, .unset, .unset, .unset]) rfl k) ?_
  show OEnds p e below s _ _ _ (T1.setTop (mkF m 11 #[.val (.ref a), .val (.long of), .second, .val (.long sv), .second, .val (.long (0 : Int64)), .second, .val (.int (0 : Int32)), .unset, .unset, .unset, .unset, .unset, .unset] []))
  have o11 : ∀ (vs : List Nat) (T : State) (lo : List Loc) (at_ : Int64) (bf_ : Int64) (ii : Int32) (d8 : Int64) (d10 : Int32) (d11 : Int32) (d12 : Int64) (i : Nat) (X_o11 : Stand p l e ({ frames := 0, cells := 0, slots := 0, locals := 0 } : Room) s m #[(.ref a), (.long of)] below meth c T lo 0 0) (e_o11 : T.heap = h0) (N_o11 : Fr n0 lo) (hlo : lo = []) (hii : ii.toInt = (i : Int)) (hEn : EncAt f i vs k) (hres : scanF vs at_ bf_ of em = scanF vs0 sv (0 : Int64) of em), OEnds p e below s (QP (.long (scanF vs0 sv (0 : Int64) of em)) h0) 0 0 (T.setTop (mkF m 11 #[.val (.ref a), .val (.long of), .second, .val (.long at_), .second, .val (.long bf_), .second, .val (.int ii), .val (.long d8), .second, .val (.int d10), .val (.int d11), .val (.long d12), .second] [])) := by
    intro vs
    induction vs with
    | nil =>
      intro T lo at_ bf_ ii d8 d10 d11 d12 i X_o11 e_o11 N_o11 hlo hii hEn hres
      show OEnds p e below s _ _ _ (T.setTop (mkF m 11 #[.val (.ref a), .val (.long of), .second, .val (.long at_), .second, .val (.long bf_), .second, .val (.int ii), .val (.long d8), .second, .val (.int d10), .val (.int d11), .val (.long d12), .second] []))
      have hik : i = k := hEn
      refine own_by (fun _ k => XS.iload X_o11.here hx rfl (hb hby d5_11) rfl k) ?_
      show OEnds p e below s _ _ _ (T.setTop (mkF m 13 #[.val (.ref a), .val (.long of), .second, .val (.long at_), .second, .val (.long bf_), .second, .val (.int ii), .val (.long d8), .second, .val (.int d10), .val (.int d11), .val (.long d12), .second] [(.int ii)]))
      refine own_by (fun _ k => XS.aloadN X_o11.here hx rfl (hb hby d5_13) rfl rfl k) ?_
      show OEnds p e below s _ _ _ (T.setTop (mkF m 14 #[.val (.ref a), .val (.long of), .second, .val (.long at_), .second, .val (.long bf_), .second, .val (.int ii), .val (.long d8), .second, .val (.int d10), .val (.int d11), .val (.long d12), .second] [(.ref a), (.int ii)]))
      obtain ⟨T2, X2, e2, st2⟩ := getF X_o11 hx hZ hown (host := "") (Or.inl (hw _ (List.mem_of_getElem? (i := 21) rfl))) Via.refl e_o11 (O0.fld 2 rfl rfl) (g := (mkF m 14 #[.val (.ref a), .val (.long of), .second, .val (.long at_), .second, .val (.long bf_), .second, .val (.int ii), .val (.long d8), .second, .val (.int d10), .val (.int d11), .val (.long d12), .second] [(.ref a), (.int ii)])) rfl rfl (hb hby d5_14)
      refine own_by (st2) ?_
      show OEnds p e below s _ _ _ (T2.setTop (mkF m 17 #[.val (.ref a), .val (.long of), .second, .val (.long at_), .second, .val (.long bf_), .second, .val (.int ii), .val (.long d8), .second, .val (.int d10), .val (.int d11), .val (.long d12), .second] [(.int sz), (.int ii)]))
      refine own_by (fun _ k => XS.icmpYes X2.here hx rfl (pc0 := 17) (pc' := 127) rfl (hb hby d5_17) rfl (flt (at_end hii hk hik)).2.1 (by decide) (by decide) k) ?_
      show OEnds p e below s _ _ _ (T2.setTop (mkF m 127 #[.val (.ref a), .val (.long of), .second, .val (.long at_), .second, .val (.long bf_), .second, .val (.int ii), .val (.long d8), .second, .val (.int d10), .val (.int d11), .val (.long d12), .second] []))
      refine own_by (fun _ k => XS.lloadN X2.here hx rfl (hb hby d5_127) rfl k) ?_
      show OEnds p e below s _ _ _ (T2.setTop (mkF m 128 #[.val (.ref a), .val (.long of), .second, .val (.long at_), .second, .val (.long bf_), .second, .val (.int ii), .val (.long d8), .second, .val (.int d10), .val (.int d11), .val (.long d12), .second] [(.long at_)]))
      refine own_by (fun _ k => XS.aloadN X2.here hx rfl (hb hby d5_128) rfl rfl k) ?_
      show OEnds p e below s _ _ _ (T2.setTop (mkF m 129 #[.val (.ref a), .val (.long of), .second, .val (.long at_), .second, .val (.long bf_), .second, .val (.int ii), .val (.long d8), .second, .val (.int d10), .val (.int d11), .val (.long d12), .second] [(.ref a), (.long at_)]))
      obtain ⟨T3, X3, e3, st3⟩ := getF X2 hx hZ hown (host := "") (Or.inl (hw _ (List.mem_of_getElem? (i := 23) rfl))) Via.refl e2 (O0.fld 3 rfl rfl) (g := (mkF m 129 #[.val (.ref a), .val (.long of), .second, .val (.long at_), .second, .val (.long bf_), .second, .val (.int ii), .val (.long d8), .second, .val (.int d10), .val (.int d11), .val (.long d12), .second] [(.ref a), (.long at_)])) rfl rfl (hb hby d5_129)
      refine own_by (st3) ?_
      show OEnds p e below s _ _ _ (T3.setTop (mkF m 132 #[.val (.ref a), .val (.long of), .second, .val (.long at_), .second, .val (.long bf_), .second, .val (.int ii), .val (.long d8), .second, .val (.int d10), .val (.int d11), .val (.long d12), .second] [(.long em), (.long at_)]))
      refine own_by (X3.ldc2Long hx hown (mvT hZ (hw _ (List.mem_of_getElem? (i := 35) rfl))) (g := (mkF m 132 #[.val (.ref a), .val (.long of), .second, .val (.long at_), .second, .val (.long bf_), .second, .val (.int ii), .val (.long d8), .second, .val (.int d10), .val (.int d11), .val (.long d12), .second] [(.long em), (.long at_)])) rfl (hb hby d5_132)) ?_
      show OEnds p e below s _ _ _ (T3.setTop (mkF m 135 #[.val (.ref a), .val (.long of), .second, .val (.long at_), .second, .val (.long bf_), .second, .val (.int ii), .val (.long d8), .second, .val (.int d10), .val (.int d11), .val (.long d12), .second] [(.long (4 : Int64)), (.long em), (.long at_)]))
      refine own_by (fun _ k => XS.lmul X3.here hx rfl (hb hby d5_135) rfl k) ?_
      show OEnds p e below s _ _ _ (T3.setTop (mkF m 136 #[.val (.ref a), .val (.long of), .second, .val (.long at_), .second, .val (.long bf_), .second, .val (.int ii), .val (.long d8), .second, .val (.int d10), .val (.int d11), .val (.long d12), .second] [(.long (em * (4 : Int64))), (.long at_)]))
      refine own_by (fun _ k => XS.ladd X3.here hx rfl (hb hby d5_136) rfl k) ?_
      show OEnds p e below s _ _ _ (T3.setTop (mkF m 137 #[.val (.ref a), .val (.long of), .second, .val (.long at_), .second, .val (.long bf_), .second, .val (.int ii), .val (.long d8), .second, .val (.int d10), .val (.int d11), .val (.long d12), .second] [(.long (at_ + (em * (4 : Int64))))]))
      exact own_retJ X3 hx hlk Bd.returns (hb hby d5_137) ⟨congrArg (fun z => some (Value.long z)) (hres), hlo, e3⟩ (by decide) (by decide)
    | cons v vs ih_o11 =>
      intro T lo at_ bf_ ii d8 d10 d11 d12 i X_o11 e_o11 N_o11 hlo hii hEn hres
      show OEnds p e below s _ _ _ (T.setTop (mkF m 11 #[.val (.ref a), .val (.long of), .second, .val (.long at_), .second, .val (.long bf_), .second, .val (.int ii), .val (.long d8), .second, .val (.int d10), .val (.int d11), .val (.long d12), .second] []))
      obtain ⟨bs0, hE0, hb5, hf0, hEr⟩ := hEn
      have hle0 := encat_le hEr
      have hpos0 := enc_pos hE0
      have hv35 := enc_lt hE0 hb5
      refine own_by (fun _ k => XS.iload X_o11.here hx rfl (hb hby d5_11) rfl k) ?_
      show OEnds p e below s _ _ _ (T.setTop (mkF m 13 #[.val (.ref a), .val (.long of), .second, .val (.long at_), .second, .val (.long bf_), .second, .val (.int ii), .val (.long d8), .second, .val (.int d10), .val (.int d11), .val (.long d12), .second] [(.int ii)]))
      refine own_by (fun _ k => XS.aloadN X_o11.here hx rfl (hb hby d5_13) rfl rfl k) ?_
      show OEnds p e below s _ _ _ (T.setTop (mkF m 14 #[.val (.ref a), .val (.long of), .second, .val (.long at_), .second, .val (.long bf_), .second, .val (.int ii), .val (.long d8), .second, .val (.int d10), .val (.int d11), .val (.long d12), .second] [(.ref a), (.int ii)]))
      obtain ⟨T4, X4, e4, st4⟩ := getF X_o11 hx hZ hown (host := "") (Or.inl (hw _ (List.mem_of_getElem? (i := 21) rfl))) Via.refl e_o11 (O0.fld 2 rfl rfl) (g := (mkF m 14 #[.val (.ref a), .val (.long of), .second, .val (.long at_), .second, .val (.long bf_), .second, .val (.int ii), .val (.long d8), .second, .val (.int d10), .val (.int d11), .val (.long d12), .second] [(.ref a), (.int ii)])) rfl rfl (hb hby d5_14)
      refine own_by (st4) ?_
      show OEnds p e below s _ _ _ (T4.setTop (mkF m 17 #[.val (.ref a), .val (.long of), .second, .val (.long at_), .second, .val (.long bf_), .second, .val (.int ii), .val (.long d8), .second, .val (.int d10), .val (.int d11), .val (.long d12), .second] [(.int sz), (.int ii)]))
      refine own_by (fun _ k => XS.icmpNo X4.here hx rfl (hb hby d5_17) rfl (tlt (not_end hii hk (by omega))).2.1 k) ?_
      show OEnds p e below s _ _ _ (T4.setTop (mkF m 20 #[.val (.ref a), .val (.long of), .second, .val (.long at_), .second, .val (.long bf_), .second, .val (.int ii), .val (.long d8), .second, .val (.int d10), .val (.int d11), .val (.long d12), .second] []))
      refine own_by (fun _ k => XS.lconst X4.here hx rfl (hb hby d5_20) k) ?_
      show OEnds p e below s _ _ _ (T4.setTop (mkF m 21 #[.val (.ref a), .val (.long of), .second, .val (.long at_), .second, .val (.long bf_), .second, .val (.int ii), .val (.long d8), .second, .val (.int d10), .val (.int d11), .val (.long d12), .second] [(.long (0 : Int64))]))
      refine own_by (fun _ k => XS.lstore X4.here hx rfl (hb hby d5_21) rfl (l' := #[.val (.ref a), .val (.long of), .second, .val (.long at_), .second, .val (.long bf_), .second, .val (.int ii), .val (.long (0 : Int64)), .second, .val (.int d10), .val (.int d11), .val (.long d12), .second]) rfl k) ?_
      show OEnds p e below s _ _ _ (T4.setTop (mkF m 23 #[.val (.ref a), .val (.long of), .second, .val (.long at_), .second, .val (.long bf_), .second, .val (.int ii), .val (.long (0 : Int64)), .second, .val (.int d10), .val (.int d11), .val (.long d12), .second] []))
      refine own_by (fun _ k => XS.iconst X4.here hx rfl (hb hby d5_23) k) ?_
      show OEnds p e below s _ _ _ (T4.setTop (mkF m 24 #[.val (.ref a), .val (.long of), .second, .val (.long at_), .second, .val (.long bf_), .second, .val (.int ii), .val (.long (0 : Int64)), .second, .val (.int d10), .val (.int d11), .val (.long d12), .second] [(.int (0 : Int32))]))
      refine own_by (fun _ k => XS.istore X4.here hx rfl (hb hby d5_24) rfl (l' := #[.val (.ref a), .val (.long of), .second, .val (.long at_), .second, .val (.long bf_), .second, .val (.int ii), .val (.long (0 : Int64)), .second, .val (.int (0 : Int32)), .val (.int d11), .val (.long d12), .second]) rfl k) ?_
      show OEnds p e below s _ _ _ (T4.setTop (mkF m 26 #[.val (.ref a), .val (.long of), .second, .val (.long at_), .second, .val (.long bf_), .second, .val (.int ii), .val (.long (0 : Int64)), .second, .val (.int (0 : Int32)), .val (.int d11), .val (.long d12), .second] []))
      refine in26 (G := OEnds p e below s _ 0 0) (fun _ _ => own_by) hx hZ hw hby hml hown a of b sv sz em f nn at_ bf_ v (i + bs0.length) (.val (.long d12)) (.second) h0 bs0 T4 _ ii (0 : Int64) (0 : Int32) d11 i v 0 0 X4 e4 O0 F0 hii (fun j hj => hf0 j hj) hE0 (by decide) (by decide) (by decide) (by simp) (by omega) rfl (by omega) hnn ?_
      intro T5 vx5 sx5 bx5 ix5 X5 e5 hvx hix
      show OEnds p e below s _ _ _ (T5.setTop (mkF m 60 #[.val (.ref a), .val (.long of), .second, .val (.long at_), .second, .val (.long bf_), .second, .val (.int ix5), .val (.long vx5), .second, .val (.int sx5), .val (.int bx5), .val (.long d12), .second] []))
      refine own_by (fun _ k => XS.lload X5.here hx rfl (hb hby d5_60) rfl k) ?_
      show OEnds p e below s _ _ _ (T5.setTop (mkF m 62 #[.val (.ref a), .val (.long of), .second, .val (.long at_), .second, .val (.long bf_), .second, .val (.int ix5), .val (.long vx5), .second, .val (.int sx5), .val (.int bx5), .val (.long d12), .second] [(.long vx5)]))
      refine own_by (fun _ k => XS.iconst X5.here hx rfl (hb hby d5_62) k) ?_
      show OEnds p e below s _ _ _ (T5.setTop (mkF m 63 #[.val (.ref a), .val (.long of), .second, .val (.long at_), .second, .val (.long bf_), .second, .val (.int ix5), .val (.long vx5), .second, .val (.int sx5), .val (.int bx5), .val (.long d12), .second] [(.int (1 : Int32)), (.long vx5)]))
      refine own_by (fun _ k => XS.lushr X5.here hx rfl (hb hby d5_63) rfl k) ?_
      show OEnds p e below s _ _ _ (T5.setTop (mkF m 64 #[.val (.ref a), .val (.long of), .second, .val (.long at_), .second, .val (.long bf_), .second, .val (.int ix5), .val (.long vx5), .second, .val (.int sx5), .val (.int bx5), .val (.long d12), .second] [(.long ((vx5.toUInt64 >>> ((1 : Int32) &&& 0x3f).toInt64.toUInt64).toInt64))]))
      refine own_by (fun _ k => XS.lstore X5.here hx rfl (hb hby d5_64) rfl (l' := #[.val (.ref a), .val (.long of), .second, .val (.long at_), .second, .val (.long bf_), .second, .val (.int ix5), .val (.long vx5), .second, .val (.int sx5), .val (.int bx5), .val (.long ((vx5.toUInt64 >>> ((1 : Int32) &&& 0x3f).toInt64.toUInt64).toInt64)), .second]) rfl k) ?_
      show OEnds p e below s _ _ _ (T5.setTop (mkF m 66 #[.val (.ref a), .val (.long of), .second, .val (.long at_), .second, .val (.long bf_), .second, .val (.int ix5), .val (.long vx5), .second, .val (.int sx5), .val (.int bx5), .val (.long ((vx5.toUInt64 >>> ((1 : Int32) &&& 0x3f).toInt64.toUInt64).toInt64)), .second] []))
      have hnh := half hvx hv35
      rw [hnh]
      show OEnds p e below s _ _ _ (T5.setTop (mkF m 66 #[.val (.ref a), .val (.long of), .second, .val (.long at_), .second, .val (.long bf_), .second, .val (.int ix5), .val (.long vx5), .second, .val (.int sx5), .val (.int bx5), .val (.long (hf v)), .second] []))
      refine own_by (fun _ k => XS.lload X5.here hx rfl (hb hby d5_66) rfl k) ?_
      show OEnds p e below s _ _ _ (T5.setTop (mkF m 68 #[.val (.ref a), .val (.long of), .second, .val (.long at_), .second, .val (.long bf_), .second, .val (.int ix5), .val (.long vx5), .second, .val (.int sx5), .val (.int bx5), .val (.long (hf v)), .second] [(.long vx5)]))
      refine own_by (fun _ k => XS.lconst X5.here hx rfl (hb hby d5_68) k) ?_
      show OEnds p e below s _ _ _ (T5.setTop (mkF m 69 #[.val (.ref a), .val (.long of), .second, .val (.long at_), .second, .val (.long bf_), .second, .val (.int ix5), .val (.long vx5), .second, .val (.int sx5), .val (.int bx5), .val (.long (hf v)), .second] [(.long (1 : Int64)), (.long vx5)]))
      refine own_by (fun _ k => XS.land X5.here hx rfl (hb hby d5_69) rfl k) ?_
      show OEnds p e below s _ _ _ (T5.setTop (mkF m 70 #[.val (.ref a), .val (.long of), .second, .val (.long at_), .second, .val (.long bf_), .second, .val (.int ix5), .val (.long vx5), .second, .val (.int sx5), .val (.int bx5), .val (.long (hf v)), .second] [(.long (vx5 &&& (1 : Int64)))]))
      refine own_by (fun _ k => XS.lconst X5.here hx rfl (hb hby d5_70) k) ?_
      show OEnds p e below s _ _ _ (T5.setTop (mkF m 71 #[.val (.ref a), .val (.long of), .second, .val (.long at_), .second, .val (.long bf_), .second, .val (.int ix5), .val (.long vx5), .second, .val (.int sx5), .val (.int bx5), .val (.long (hf v)), .second] [(.long (0 : Int64)), (.long (vx5 &&& (1 : Int64)))]))
      refine own_by (fun _ k => XS.lcmp X5.here hx rfl (hb hby d5_71) rfl k) ?_
      show OEnds p e below s _ _ _ (T5.setTop (mkF m 72 #[.val (.ref a), .val (.long of), .second, .val (.long at_), .second, .val (.long bf_), .second, .val (.int ix5), .val (.long vx5), .second, .val (.int sx5), .val (.int bx5), .val (.long (hf v)), .second] [(.int (lcmpW (vx5 &&& (1 : Int64)) (0 : Int64)))]))
      by_cases hc72_6 : (vx5 &&& (1 : Int64)) = (0 : Int64)
      · refine own_by (fun _ k => XS.ifYes X5.here hx rfl (pc0 := 72) (pc' := 87) rfl (hb hby d5_72) rfl ((if0 _ _).trans (teq ((lw_eq _ _).mpr hc72_6)).1) (by decide) (by decide) k) ?_
        show OEnds p e below s _ _ _ (T5.setTop (mkF m 87 #[.val (.ref a), .val (.long of), .second, .val (.long at_), .second, .val (.long bf_), .second, .val (.int ix5), .val (.long vx5), .second, .val (.int sx5), .val (.int bx5), .val (.long (hf v)), .second] []))
        refine own_by (fun _ k => XS.lloadN X5.here hx rfl (hb hby d5_87) rfl k) ?_
        show OEnds p e below s _ _ _ (T5.setTop (mkF m 88 #[.val (.ref a), .val (.long of), .second, .val (.long at_), .second, .val (.long bf_), .second, .val (.int ix5), .val (.long vx5), .second, .val (.int sx5), .val (.int bx5), .val (.long (hf v)), .second] [(.long of)]))
        refine own_by (fun _ k => XS.lload X5.here hx rfl (hb hby d5_88) rfl k) ?_
        show OEnds p e below s _ _ _ (T5.setTop (mkF m 90 #[.val (.ref a), .val (.long of), .second, .val (.long at_), .second, .val (.long bf_), .second, .val (.int ix5), .val (.long vx5), .second, .val (.int sx5), .val (.int bx5), .val (.long (hf v)), .second] [(.long bf_), (.long of)]))
        refine own_by (fun _ k => XS.lload X5.here hx rfl (hb hby d5_90) rfl k) ?_
        show OEnds p e below s _ _ _ (T5.setTop (mkF m 92 #[.val (.ref a), .val (.long of), .second, .val (.long at_), .second, .val (.long bf_), .second, .val (.int ix5), .val (.long vx5), .second, .val (.int sx5), .val (.int bx5), .val (.long (hf v)), .second] [(.long (hf v)), (.long bf_), (.long of)]))
        refine own_by (fun _ k => XS.ladd X5.here hx rfl (hb hby d5_92) rfl k) ?_
        show OEnds p e below s _ _ _ (T5.setTop (mkF m 93 #[.val (.ref a), .val (.long of), .second, .val (.long at_), .second, .val (.long bf_), .second, .val (.int ix5), .val (.long vx5), .second, .val (.int sx5), .val (.int bx5), .val (.long (hf v)), .second] [(.long (bf_ + (hf v))), (.long of)]))
        refine own_by (fun _ k => XS.lcmp X5.here hx rfl (hb hby d5_93) rfl k) ?_
        show OEnds p e below s _ _ _ (T5.setTop (mkF m 94 #[.val (.ref a), .val (.long of), .second, .val (.long at_), .second, .val (.long bf_), .second, .val (.int ix5), .val (.long vx5), .second, .val (.int sx5), .val (.int bx5), .val (.long (hf v)), .second] [(.int (lcmpW of (bf_ + (hf v))))]))
        by_cases hc94_7 : of < (bf_ + (hf v))
        · refine own_by (fun _ k => XS.ifNo X5.here hx rfl (hb hby d5_94) rfl ((if0 _ _).trans (tlt ((lw_lt _ _).mpr hc94_7)).2.1) k) ?_
          show OEnds p e below s _ _ _ (T5.setTop (mkF m 97 #[.val (.ref a), .val (.long of), .second, .val (.long at_), .second, .val (.long bf_), .second, .val (.int ix5), .val (.long vx5), .second, .val (.int sx5), .val (.int bx5), .val (.long (hf v)), .second] []))
          refine own_by (fun _ k => XS.lloadN X5.here hx rfl (hb hby d5_97) rfl k) ?_
          show OEnds p e below s _ _ _ (T5.setTop (mkF m 98 #[.val (.ref a), .val (.long of), .second, .val (.long at_), .second, .val (.long bf_), .second, .val (.int ix5), .val (.long vx5), .second, .val (.int sx5), .val (.int bx5), .val (.long (hf v)), .second] [(.long at_)]))
          refine own_by (X5.ldc2Long hx hown (mvT hZ (hw _ (List.mem_of_getElem? (i := 35) rfl))) (g := (mkF m 98 #[.val (.ref a), .val (.long of), .second, .val (.long at_), .second, .val (.long bf_), .second, .val (.int ix5), .val (.long vx5), .second, .val (.int sx5), .val (.int bx5), .val (.long (hf v)), .second] [(.long at_)])) rfl (hb hby d5_98)) ?_
          show OEnds p e below s _ _ _ (T5.setTop (mkF m 101 #[.val (.ref a), .val (.long of), .second, .val (.long at_), .second, .val (.long bf_), .second, .val (.int ix5), .val (.long vx5), .second, .val (.int sx5), .val (.int bx5), .val (.long (hf v)), .second] [(.long (4 : Int64)), (.long at_)]))
          refine own_by (fun _ k => XS.ladd X5.here hx rfl (hb hby d5_101) rfl k) ?_
          show OEnds p e below s _ _ _ (T5.setTop (mkF m 102 #[.val (.ref a), .val (.long of), .second, .val (.long at_), .second, .val (.long bf_), .second, .val (.int ix5), .val (.long vx5), .second, .val (.int sx5), .val (.int bx5), .val (.long (hf v)), .second] [(.long (at_ + (4 : Int64)))]))
          refine own_by (fun _ k => XS.lloadN X5.here hx rfl (hb hby d5_102) rfl k) ?_
          show OEnds p e below s _ _ _ (T5.setTop (mkF m 103 #[.val (.ref a), .val (.long of), .second, .val (.long at_), .second, .val (.long bf_), .second, .val (.int ix5), .val (.long vx5), .second, .val (.int sx5), .val (.int bx5), .val (.long (hf v)), .second] [(.long of), (.long (at_ + (4 : Int64)))]))
          refine own_by (fun _ k => XS.ladd X5.here hx rfl (hb hby d5_103) rfl k) ?_
          show OEnds p e below s _ _ _ (T5.setTop (mkF m 104 #[.val (.ref a), .val (.long of), .second, .val (.long at_), .second, .val (.long bf_), .second, .val (.int ix5), .val (.long vx5), .second, .val (.int sx5), .val (.int bx5), .val (.long (hf v)), .second] [(.long ((at_ + (4 : Int64)) + of))]))
          refine own_by (fun _ k => XS.lload X5.here hx rfl (hb hby d5_104) rfl k) ?_
          show OEnds p e below s _ _ _ (T5.setTop (mkF m 106 #[.val (.ref a), .val (.long of), .second, .val (.long at_), .second, .val (.long bf_), .second, .val (.int ix5), .val (.long vx5), .second, .val (.int sx5), .val (.int bx5), .val (.long (hf v)), .second] [(.long bf_), (.long ((at_ + (4 : Int64)) + of))]))
          refine own_by (fun _ k => XS.lsub X5.here hx rfl (hb hby d5_106) rfl k) ?_
          show OEnds p e below s _ _ _ (T5.setTop (mkF m 107 #[.val (.ref a), .val (.long of), .second, .val (.long at_), .second, .val (.long bf_), .second, .val (.int ix5), .val (.long vx5), .second, .val (.int sx5), .val (.int bx5), .val (.long (hf v)), .second] [(.long (((at_ + (4 : Int64)) + of) - bf_))]))
          exact own_retJ X5 hx hlk Bd.returns (hb hby d5_107) ⟨congrArg (fun z => some (Value.long z)) ((scan_hit (even_of hvx hc72_6) hc94_7).symm.trans hres), hlo, e5⟩ (by decide) (by decide)
        · refine own_by (fun _ k => XS.ifYes X5.here hx rfl (pc0 := 94) (pc' := 108) rfl (hb hby d5_94) rfl ((if0 _ _).trans (flt (fun q => hc94_7 ((lw_lt _ _).mp q))).2.1) (by decide) (by decide) k) ?_
          show OEnds p e below s _ _ _ (T5.setTop (mkF m 108 #[.val (.ref a), .val (.long of), .second, .val (.long at_), .second, .val (.long bf_), .second, .val (.int ix5), .val (.long vx5), .second, .val (.int sx5), .val (.int bx5), .val (.long (hf v)), .second] []))
          refine own_by (fun _ k => XS.lloadN X5.here hx rfl (hb hby d5_108) rfl k) ?_
          show OEnds p e below s _ _ _ (T5.setTop (mkF m 109 #[.val (.ref a), .val (.long of), .second, .val (.long at_), .second, .val (.long bf_), .second, .val (.int ix5), .val (.long vx5), .second, .val (.int sx5), .val (.int bx5), .val (.long (hf v)), .second] [(.long at_)]))
          refine own_by (X5.ldc2Long hx hown (mvT hZ (hw _ (List.mem_of_getElem? (i := 35) rfl))) (g := (mkF m 109 #[.val (.ref a), .val (.long of), .second, .val (.long at_), .second, .val (.long bf_), .second, .val (.int ix5), .val (.long vx5), .second, .val (.int sx5), .val (.int bx5), .val (.long (hf v)), .second] [(.long at_)])) rfl (hb hby d5_109)) ?_
          show OEnds p e below s _ _ _ (T5.setTop (mkF m 112 #[.val (.ref a), .val (.long of), .second, .val (.long at_), .second, .val (.long bf_), .second, .val (.int ix5), .val (.long vx5), .second, .val (.int sx5), .val (.int bx5), .val (.long (hf v)), .second] [(.long (4 : Int64)), (.long at_)]))
          refine own_by (fun _ k => XS.lload X5.here hx rfl (hb hby d5_112) rfl k) ?_
          show OEnds p e below s _ _ _ (T5.setTop (mkF m 114 #[.val (.ref a), .val (.long of), .second, .val (.long at_), .second, .val (.long bf_), .second, .val (.int ix5), .val (.long vx5), .second, .val (.int sx5), .val (.int bx5), .val (.long (hf v)), .second] [(.long (hf v)), (.long (4 : Int64)), (.long at_)]))
          refine own_by (fun _ k => XS.ladd X5.here hx rfl (hb hby d5_114) rfl k) ?_
          show OEnds p e below s _ _ _ (T5.setTop (mkF m 115 #[.val (.ref a), .val (.long of), .second, .val (.long at_), .second, .val (.long bf_), .second, .val (.int ix5), .val (.long vx5), .second, .val (.int sx5), .val (.int bx5), .val (.long (hf v)), .second] [(.long ((4 : Int64) + (hf v))), (.long at_)]))
          refine own_by (fun _ k => XS.ladd X5.here hx rfl (hb hby d5_115) rfl k) ?_
          show OEnds p e below s _ _ _ (T5.setTop (mkF m 116 #[.val (.ref a), .val (.long of), .second, .val (.long at_), .second, .val (.long bf_), .second, .val (.int ix5), .val (.long vx5), .second, .val (.int sx5), .val (.int bx5), .val (.long (hf v)), .second] [(.long (at_ + ((4 : Int64) + (hf v))))]))
          refine own_by (fun _ k => XS.lstoreN X5.here hx rfl (hb hby d5_116) rfl (l' := #[.val (.ref a), .val (.long of), .second, .val (.long (at_ + ((4 : Int64) + (hf v)))), .second, .val (.long bf_), .second, .val (.int ix5), .val (.long vx5), .second, .val (.int sx5), .val (.int bx5), .val (.long (hf v)), .second]) rfl k) ?_
          show OEnds p e below s _ _ _ (T5.setTop (mkF m 117 #[.val (.ref a), .val (.long of), .second, .val (.long (at_ + ((4 : Int64) + (hf v)))), .second, .val (.long bf_), .second, .val (.int ix5), .val (.long vx5), .second, .val (.int sx5), .val (.int bx5), .val (.long (hf v)), .second] []))
          refine own_by (fun _ k => XS.lload X5.here hx rfl (hb hby d5_117) rfl k) ?_
          show OEnds p e below s _ _ _ (T5.setTop (mkF m 119 #[.val (.ref a), .val (.long of), .second, .val (.long (at_ + ((4 : Int64) + (hf v)))), .second, .val (.long bf_), .second, .val (.int ix5), .val (.long vx5), .second, .val (.int sx5), .val (.int bx5), .val (.long (hf v)), .second] [(.long bf_)]))
          refine own_by (fun _ k => XS.lload X5.here hx rfl (hb hby d5_119) rfl k) ?_
          show OEnds p e below s _ _ _ (T5.setTop (mkF m 121 #[.val (.ref a), .val (.long of), .second, .val (.long (at_ + ((4 : Int64) + (hf v)))), .second, .val (.long bf_), .second, .val (.int ix5), .val (.long vx5), .second, .val (.int sx5), .val (.int bx5), .val (.long (hf v)), .second] [(.long (hf v)), (.long bf_)]))
          refine own_by (fun _ k => XS.ladd X5.here hx rfl (hb hby d5_121) rfl k) ?_
          show OEnds p e below s _ _ _ (T5.setTop (mkF m 122 #[.val (.ref a), .val (.long of), .second, .val (.long (at_ + ((4 : Int64) + (hf v)))), .second, .val (.long bf_), .second, .val (.int ix5), .val (.long vx5), .second, .val (.int sx5), .val (.int bx5), .val (.long (hf v)), .second] [(.long (bf_ + (hf v)))]))
          refine own_by (fun _ k => XS.lstore X5.here hx rfl (hb hby d5_122) rfl (l' := #[.val (.ref a), .val (.long of), .second, .val (.long (at_ + ((4 : Int64) + (hf v)))), .second, .val (.long (bf_ + (hf v))), .second, .val (.int ix5), .val (.long vx5), .second, .val (.int sx5), .val (.int bx5), .val (.long (hf v)), .second]) rfl k) ?_
          show OEnds p e below s _ _ _ (T5.setTop (mkF m 124 #[.val (.ref a), .val (.long of), .second, .val (.long (at_ + ((4 : Int64) + (hf v)))), .second, .val (.long (bf_ + (hf v))), .second, .val (.int ix5), .val (.long vx5), .second, .val (.int sx5), .val (.int bx5), .val (.long (hf v)), .second] []))
          refine own_by (fun _ k => XS.goto X5.here hx rfl (pc0 := 124) (pc' := 11) rfl (hb hby d5_124) (by decide) (by decide) k) ?_
          show OEnds p e below s _ _ _ (T5.setTop (mkF m 11 #[.val (.ref a), .val (.long of), .second, .val (.long (at_ + ((4 : Int64) + (hf v)))), .second, .val (.long (bf_ + (hf v))), .second, .val (.int ix5), .val (.long vx5), .second, .val (.int sx5), .val (.int bx5), .val (.long (hf v)), .second] []))
          exact ih_o11 T5 _ (at_ + ((4 : Int64) + (hf v))) (bf_ + (hf v)) ix5 vx5 sx5 bx5 (hf v) _ X5 e5 N_o11 hlo hix hEr ((scan_even (even_of hvx hc72_6) hc94_7).symm.trans hres)
      · refine own_by (fun _ k => XS.ifNo X5.here hx rfl (hb hby d5_72) rfl ((if0 _ _).trans (feq (fun q => hc72_6 ((lw_eq _ _).mp q))).1) k) ?_
        show OEnds p e below s _ _ _ (T5.setTop (mkF m 75 #[.val (.ref a), .val (.long of), .second, .val (.long at_), .second, .val (.long bf_), .second, .val (.int ix5), .val (.long vx5), .second, .val (.int sx5), .val (.int bx5), .val (.long (hf v)), .second] []))
        refine own_by (fun _ k => XS.lloadN X5.here hx rfl (hb hby d5_75) rfl k) ?_
        show OEnds p e below s _ _ _ (T5.setTop (mkF m 76 #[.val (.ref a), .val (.long of), .second, .val (.long at_), .second, .val (.long bf_), .second, .val (.int ix5), .val (.long vx5), .second, .val (.int sx5), .val (.int bx5), .val (.long (hf v)), .second] [(.long at_)]))
        refine own_by (fun _ k => XS.lload X5.here hx rfl (hb hby d5_76) rfl k) ?_
        show OEnds p e below s _ _ _ (T5.setTop (mkF m 78 #[.val (.ref a), .val (.long of), .second, .val (.long at_), .second, .val (.long bf_), .second, .val (.int ix5), .val (.long vx5), .second, .val (.int sx5), .val (.int bx5), .val (.long (hf v)), .second] [(.long (hf v)), (.long at_)]))
        refine own_by (X5.ldc2Long hx hown (mvT hZ (hw _ (List.mem_of_getElem? (i := 35) rfl))) (g := (mkF m 78 #[.val (.ref a), .val (.long of), .second, .val (.long at_), .second, .val (.long bf_), .second, .val (.int ix5), .val (.long vx5), .second, .val (.int sx5), .val (.int bx5), .val (.long (hf v)), .second] [(.long (hf v)), (.long at_)])) rfl (hb hby d5_78)) ?_
        show OEnds p e below s _ _ _ (T5.setTop (mkF m 81 #[.val (.ref a), .val (.long of), .second, .val (.long at_), .second, .val (.long bf_), .second, .val (.int ix5), .val (.long vx5), .second, .val (.int sx5), .val (.int bx5), .val (.long (hf v)), .second] [(.long (4 : Int64)), (.long (hf v)), (.long at_)]))
        refine own_by (fun _ k => XS.lmul X5.here hx rfl (hb hby d5_81) rfl k) ?_
        show OEnds p e below s _ _ _ (T5.setTop (mkF m 82 #[.val (.ref a), .val (.long of), .second, .val (.long at_), .second, .val (.long bf_), .second, .val (.int ix5), .val (.long vx5), .second, .val (.int sx5), .val (.int bx5), .val (.long (hf v)), .second] [(.long ((hf v) * (4 : Int64))), (.long at_)]))
        refine own_by (fun _ k => XS.ladd X5.here hx rfl (hb hby d5_82) rfl k) ?_
        show OEnds p e below s _ _ _ (T5.setTop (mkF m 83 #[.val (.ref a), .val (.long of), .second, .val (.long at_), .second, .val (.long bf_), .second, .val (.int ix5), .val (.long vx5), .second, .val (.int sx5), .val (.int bx5), .val (.long (hf v)), .second] [(.long (at_ + ((hf v) * (4 : Int64))))]))
        refine own_by (fun _ k => XS.lstoreN X5.here hx rfl (hb hby d5_83) rfl (l' := #[.val (.ref a), .val (.long of), .second, .val (.long (at_ + ((hf v) * (4 : Int64)))), .second, .val (.long bf_), .second, .val (.int ix5), .val (.long vx5), .second, .val (.int sx5), .val (.int bx5), .val (.long (hf v)), .second]) rfl k) ?_
        show OEnds p e below s _ _ _ (T5.setTop (mkF m 84 #[.val (.ref a), .val (.long of), .second, .val (.long (at_ + ((hf v) * (4 : Int64)))), .second, .val (.long bf_), .second, .val (.int ix5), .val (.long vx5), .second, .val (.int sx5), .val (.int bx5), .val (.long (hf v)), .second] []))
        refine own_by (fun _ k => XS.goto X5.here hx rfl (pc0 := 84) (pc' := 124) rfl (hb hby d5_84) (by decide) (by decide) k) ?_
        show OEnds p e below s _ _ _ (T5.setTop (mkF m 124 #[.val (.ref a), .val (.long of), .second, .val (.long (at_ + ((hf v) * (4 : Int64)))), .second, .val (.long bf_), .second, .val (.int ix5), .val (.long vx5), .second, .val (.int sx5), .val (.int bx5), .val (.long (hf v)), .second] []))
        refine own_by (fun _ k => XS.goto X5.here hx rfl (pc0 := 124) (pc' := 11) rfl (hb hby d5_124) (by decide) (by decide) k) ?_
        show OEnds p e below s _ _ _ (T5.setTop (mkF m 11 #[.val (.ref a), .val (.long of), .second, .val (.long (at_ + ((hf v) * (4 : Int64)))), .second, .val (.long bf_), .second, .val (.int ix5), .val (.long vx5), .second, .val (.int sx5), .val (.int bx5), .val (.long (hf v)), .second] []))
        exact ih_o11 T5 _ (at_ + ((hf v) * (4 : Int64))) bf_ ix5 vx5 sx5 bx5 (hf v) _ X5 e5 N_o11 hlo hix hEr ((scan_odd (odd_of hvx hc72_6)).symm.trans hres)
  cases vs0 with
  | nil =>
    have hlo : ([] : List Loc) = [] := rfl
    have hii : (0 : Int32).toInt = ((0 : Nat) : Int) := by decide
    have hEn := hEn0
    have hres : scanF [] sv (0 : Int64) of em = scanF [] sv (0 : Int64) of em := rfl
    obtain ⟨i, ei⟩ : ∃ i, i = 0 := ⟨0, rfl⟩
    rw [← ei] at hii hEn
    have hik : i = k := hEn
    refine own_by (fun _ k => XS.iload X1.here hx rfl (hb hby d5_11) rfl k) ?_
    show OEnds p e below s _ _ _ (T1.setTop (mkF m 13 #[.val (.ref a), .val (.long of), .second, .val (.long sv), .second, .val (.long (0 : Int64)), .second, .val (.int (0 : Int32)), .unset, .unset, .unset, .unset, .unset, .unset] [(.int (0 : Int32))]))
    refine own_by (fun _ k => XS.aloadN X1.here hx rfl (hb hby d5_13) rfl rfl k) ?_
    show OEnds p e below s _ _ _ (T1.setTop (mkF m 14 #[.val (.ref a), .val (.long of), .second, .val (.long sv), .second, .val (.long (0 : Int64)), .second, .val (.int (0 : Int32)), .unset, .unset, .unset, .unset, .unset, .unset] [(.ref a), (.int (0 : Int32))]))
    obtain ⟨T8, X8, e8, st8⟩ := getF X1 hx hZ hown (host := "") (Or.inl (hw _ (List.mem_of_getElem? (i := 21) rfl))) Via.refl e1 (O0.fld 2 rfl rfl) (g := (mkF m 14 #[.val (.ref a), .val (.long of), .second, .val (.long sv), .second, .val (.long (0 : Int64)), .second, .val (.int (0 : Int32)), .unset, .unset, .unset, .unset, .unset, .unset] [(.ref a), (.int (0 : Int32))])) rfl rfl (hb hby d5_14)
    refine own_by (st8) ?_
    show OEnds p e below s _ _ _ (T8.setTop (mkF m 17 #[.val (.ref a), .val (.long of), .second, .val (.long sv), .second, .val (.long (0 : Int64)), .second, .val (.int (0 : Int32)), .unset, .unset, .unset, .unset, .unset, .unset] [(.int sz), (.int (0 : Int32))]))
    refine own_by (fun _ k => XS.icmpYes X8.here hx rfl (pc0 := 17) (pc' := 127) rfl (hb hby d5_17) rfl (flt (at_end hii hk hik)).2.1 (by decide) (by decide) k) ?_
    show OEnds p e below s _ _ _ (T8.setTop (mkF m 127 #[.val (.ref a), .val (.long of), .second, .val (.long sv), .second, .val (.long (0 : Int64)), .second, .val (.int (0 : Int32)), .unset, .unset, .unset, .unset, .unset, .unset] []))
    refine own_by (fun _ k => XS.lloadN X8.here hx rfl (hb hby d5_127) rfl k) ?_
    show OEnds p e below s _ _ _ (T8.setTop (mkF m 128 #[.val (.ref a), .val (.long of), .second, .val (.long sv), .second, .val (.long (0 : Int64)), .second, .val (.int (0 : Int32)), .unset, .unset, .unset, .unset, .unset, .unset] [(.long sv)]))
    refine own_by (fun _ k => XS.aloadN X8.here hx rfl (hb hby d5_128) rfl rfl k) ?_
    show OEnds p e below s _ _ _ (T8.setTop (mkF m 129 #[.val (.ref a), .val (.long of), .second, .val (.long sv), .second, .val (.long (0 : Int64)), .second, .val (.int (0 : Int32)), .unset, .unset, .unset, .unset, .unset, .unset] [(.ref a), (.long sv)]))
    obtain ⟨T9, X9, e9, st9⟩ := getF X8 hx hZ hown (host := "") (Or.inl (hw _ (List.mem_of_getElem? (i := 23) rfl))) Via.refl e8 (O0.fld 3 rfl rfl) (g := (mkF m 129 #[.val (.ref a), .val (.long of), .second, .val (.long sv), .second, .val (.long (0 : Int64)), .second, .val (.int (0 : Int32)), .unset, .unset, .unset, .unset, .unset, .unset] [(.ref a), (.long sv)])) rfl rfl (hb hby d5_129)
    refine own_by (st9) ?_
    show OEnds p e below s _ _ _ (T9.setTop (mkF m 132 #[.val (.ref a), .val (.long of), .second, .val (.long sv), .second, .val (.long (0 : Int64)), .second, .val (.int (0 : Int32)), .unset, .unset, .unset, .unset, .unset, .unset] [(.long em), (.long sv)]))
    refine own_by (X9.ldc2Long hx hown (mvT hZ (hw _ (List.mem_of_getElem? (i := 35) rfl))) (g := (mkF m 132 #[.val (.ref a), .val (.long of), .second, .val (.long sv), .second, .val (.long (0 : Int64)), .second, .val (.int (0 : Int32)), .unset, .unset, .unset, .unset, .unset, .unset] [(.long em), (.long sv)])) rfl (hb hby d5_132)) ?_
    show OEnds p e below s _ _ _ (T9.setTop (mkF m 135 #[.val (.ref a), .val (.long of), .second, .val (.long sv), .second, .val (.long (0 : Int64)), .second, .val (.int (0 : Int32)), .unset, .unset, .unset, .unset, .unset, .unset] [(.long (4 : Int64)), (.long em), (.long sv)]))
    refine own_by (fun _ k => XS.lmul X9.here hx rfl (hb hby d5_135) rfl k) ?_
    show OEnds p e below s _ _ _ (T9.setTop (mkF m 136 #[.val (.ref a), .val (.long of), .second, .val (.long sv), .second, .val (.long (0 : Int64)), .second, .val (.int (0 : Int32)), .unset, .unset, .unset, .unset, .unset, .unset] [(.long (em * (4 : Int64))), (.long sv)]))
    refine own_by (fun _ k => XS.ladd X9.here hx rfl (hb hby d5_136) rfl k) ?_
    show OEnds p e below s _ _ _ (T9.setTop (mkF m 137 #[.val (.ref a), .val (.long of), .second, .val (.long sv), .second, .val (.long (0 : Int64)), .second, .val (.int (0 : Int32)), .unset, .unset, .unset, .unset, .unset, .unset] [(.long (sv + (em * (4 : Int64))))]))
    exact own_retJ X9 hx hlk Bd.returns (hb hby d5_137) ⟨congrArg (fun z => some (Value.long z)) (hres), hlo, e9⟩ (by decide) (by decide)
  | cons v vs =>
    have hlo : ([] : List Loc) = [] := rfl
    have hii : (0 : Int32).toInt = ((0 : Nat) : Int) := by decide
    have hEn := hEn0
    have hres : scanF (v :: vs) sv (0 : Int64) of em = scanF (v :: vs) sv (0 : Int64) of em := rfl
    obtain ⟨i, ei⟩ : ∃ i, i = 0 := ⟨0, rfl⟩
    rw [← ei] at hii hEn
    obtain ⟨bs0, hE0, hb5, hf0, hEr⟩ := hEn
    have hle0 := encat_le hEr
    have hpos0 := enc_pos hE0
    have hv35 := enc_lt hE0 hb5
    refine own_by (fun _ k => XS.iload X1.here hx rfl (hb hby d5_11) rfl k) ?_
    show OEnds p e below s _ _ _ (T1.setTop (mkF m 13 #[.val (.ref a), .val (.long of), .second, .val (.long sv), .second, .val (.long (0 : Int64)), .second, .val (.int (0 : Int32)), .unset, .unset, .unset, .unset, .unset, .unset] [(.int (0 : Int32))]))
    refine own_by (fun _ k => XS.aloadN X1.here hx rfl (hb hby d5_13) rfl rfl k) ?_
    show OEnds p e below s _ _ _ (T1.setTop (mkF m 14 #[.val (.ref a), .val (.long of), .second, .val (.long sv), .second, .val (.long (0 : Int64)), .second, .val (.int (0 : Int32)), .unset, .unset, .unset, .unset, .unset, .unset] [(.ref a), (.int (0 : Int32))]))
    obtain ⟨T10, X10, e10, st10⟩ := getF X1 hx hZ hown (host := "") (Or.inl (hw _ (List.mem_of_getElem? (i := 21) rfl))) Via.refl e1 (O0.fld 2 rfl rfl) (g := (mkF m 14 #[.val (.ref a), .val (.long of), .second, .val (.long sv), .second, .val (.long (0 : Int64)), .second, .val (.int (0 : Int32)), .unset, .unset, .unset, .unset, .unset, .unset] [(.ref a), (.int (0 : Int32))])) rfl rfl (hb hby d5_14)
    refine own_by (st10) ?_
    show OEnds p e below s _ _ _ (T10.setTop (mkF m 17 #[.val (.ref a), .val (.long of), .second, .val (.long sv), .second, .val (.long (0 : Int64)), .second, .val (.int (0 : Int32)), .unset, .unset, .unset, .unset, .unset, .unset] [(.int sz), (.int (0 : Int32))]))
    refine own_by (fun _ k => XS.icmpNo X10.here hx rfl (hb hby d5_17) rfl (tlt (not_end hii hk (by omega))).2.1 k) ?_
    show OEnds p e below s _ _ _ (T10.setTop (mkF m 20 #[.val (.ref a), .val (.long of), .second, .val (.long sv), .second, .val (.long (0 : Int64)), .second, .val (.int (0 : Int32)), .unset, .unset, .unset, .unset, .unset, .unset] []))
    refine own_by (fun _ k => XS.lconst X10.here hx rfl (hb hby d5_20) k) ?_
    show OEnds p e below s _ _ _ (T10.setTop (mkF m 21 #[.val (.ref a), .val (.long of), .second, .val (.long sv), .second, .val (.long (0 : Int64)), .second, .val (.int (0 : Int32)), .unset, .unset, .unset, .unset, .unset, .unset] [(.long (0 : Int64))]))
    refine own_by (fun _ k => XS.lstore X10.here hx rfl (hb hby d5_21) rfl (l' := #[.val (.ref a), .val (.long of), .second, .val (.long sv), .second, .val (.long (0 : Int64)), .second, .val (.int (0 : Int32)), .val (.long (0 : Int64)), .second, .unset, .unset, .unset, .unset]) rfl k) ?_
    show OEnds p e below s _ _ _ (T10.setTop (mkF m 23 #[.val (.ref a), .val (.long of), .second, .val (.long sv), .second, .val (.long (0 : Int64)), .second, .val (.int (0 : Int32)), .val (.long (0 : Int64)), .second, .unset, .unset, .unset, .unset] []))
    refine own_by (fun _ k => XS.iconst X10.here hx rfl (hb hby d5_23) k) ?_
    show OEnds p e below s _ _ _ (T10.setTop (mkF m 24 #[.val (.ref a), .val (.long of), .second, .val (.long sv), .second, .val (.long (0 : Int64)), .second, .val (.int (0 : Int32)), .val (.long (0 : Int64)), .second, .unset, .unset, .unset, .unset] [(.int (0 : Int32))]))
    refine own_by (fun _ k => XS.istore X10.here hx rfl (hb hby d5_24) rfl (l' := #[.val (.ref a), .val (.long of), .second, .val (.long sv), .second, .val (.long (0 : Int64)), .second, .val (.int (0 : Int32)), .val (.long (0 : Int64)), .second, .val (.int (0 : Int32)), .unset, .unset, .unset]) rfl k) ?_
    show OEnds p e below s _ _ _ (T10.setTop (mkF m 26 #[.val (.ref a), .val (.long of), .second, .val (.long sv), .second, .val (.long (0 : Int64)), .second, .val (.int (0 : Int32)), .val (.long (0 : Int64)), .second, .val (.int (0 : Int32)), .unset, .unset, .unset] []))
    obtain ⟨b0, bs1, rfl⟩ : ∃ b0 bs1, bs0 = b0 :: bs1 := by
      cases bs0 with
      | nil => exact absurd hE0 (by simp [Enc])
      | cons x y => exact ⟨x, y, rfl⟩
    refine in26u (G := OEnds p e below s _ 0 0) (fun _ _ => own_by) hx hZ hw hby hml hown a of b sv sz em f nn sv (0 : Int64) v (i + (b0 :: bs1).length) (.unset) (.unset) b0 bs1 h0 T10 _ (0 : Int32) (0 : Int64) (0 : Int32) i v 0 0 X10 e10 O0 F0 hii (fun j hj => hf0 j hj) hE0 (by decide) (by decide) (by decide) (by simp) (by omega) rfl (by omega) hnn ?_
    intro T11 vx11 sx11 bx11 ix11 X11 e11 hvx hix
    show OEnds p e below s _ _ _ (T11.setTop (mkF m 60 #[.val (.ref a), .val (.long of), .second, .val (.long sv), .second, .val (.long (0 : Int64)), .second, .val (.int ix11), .val (.long vx11), .second, .val (.int sx11), .val (.int bx11), .unset, .unset] []))
    refine own_by (fun _ k => XS.lload X11.here hx rfl (hb hby d5_60) rfl k) ?_
    show OEnds p e below s _ _ _ (T11.setTop (mkF m 62 #[.val (.ref a), .val (.long of), .second, .val (.long sv), .second, .val (.long (0 : Int64)), .second, .val (.int ix11), .val (.long vx11), .second, .val (.int sx11), .val (.int bx11), .unset, .unset] [(.long vx11)]))
    refine own_by (fun _ k => XS.iconst X11.here hx rfl (hb hby d5_62) k) ?_
    show OEnds p e below s _ _ _ (T11.setTop (mkF m 63 #[.val (.ref a), .val (.long of), .second, .val (.long sv), .second, .val (.long (0 : Int64)), .second, .val (.int ix11), .val (.long vx11), .second, .val (.int sx11), .val (.int bx11), .unset, .unset] [(.int (1 : Int32)), (.long vx11)]))
    refine own_by (fun _ k => XS.lushr X11.here hx rfl (hb hby d5_63) rfl k) ?_
    show OEnds p e below s _ _ _ (T11.setTop (mkF m 64 #[.val (.ref a), .val (.long of), .second, .val (.long sv), .second, .val (.long (0 : Int64)), .second, .val (.int ix11), .val (.long vx11), .second, .val (.int sx11), .val (.int bx11), .unset, .unset] [(.long ((vx11.toUInt64 >>> ((1 : Int32) &&& 0x3f).toInt64.toUInt64).toInt64))]))
    refine own_by (fun _ k => XS.lstore X11.here hx rfl (hb hby d5_64) rfl (l' := #[.val (.ref a), .val (.long of), .second, .val (.long sv), .second, .val (.long (0 : Int64)), .second, .val (.int ix11), .val (.long vx11), .second, .val (.int sx11), .val (.int bx11), .val (.long ((vx11.toUInt64 >>> ((1 : Int32) &&& 0x3f).toInt64.toUInt64).toInt64)), .second]) rfl k) ?_
    show OEnds p e below s _ _ _ (T11.setTop (mkF m 66 #[.val (.ref a), .val (.long of), .second, .val (.long sv), .second, .val (.long (0 : Int64)), .second, .val (.int ix11), .val (.long vx11), .second, .val (.int sx11), .val (.int bx11), .val (.long ((vx11.toUInt64 >>> ((1 : Int32) &&& 0x3f).toInt64.toUInt64).toInt64)), .second] []))
    have hnh := half hvx hv35
    rw [hnh]
    show OEnds p e below s _ _ _ (T11.setTop (mkF m 66 #[.val (.ref a), .val (.long of), .second, .val (.long sv), .second, .val (.long (0 : Int64)), .second, .val (.int ix11), .val (.long vx11), .second, .val (.int sx11), .val (.int bx11), .val (.long (hf v)), .second] []))
    refine own_by (fun _ k => XS.lload X11.here hx rfl (hb hby d5_66) rfl k) ?_
    show OEnds p e below s _ _ _ (T11.setTop (mkF m 68 #[.val (.ref a), .val (.long of), .second, .val (.long sv), .second, .val (.long (0 : Int64)), .second, .val (.int ix11), .val (.long vx11), .second, .val (.int sx11), .val (.int bx11), .val (.long (hf v)), .second] [(.long vx11)]))
    refine own_by (fun _ k => XS.lconst X11.here hx rfl (hb hby d5_68) k) ?_
    show OEnds p e below s _ _ _ (T11.setTop (mkF m 69 #[.val (.ref a), .val (.long of), .second, .val (.long sv), .second, .val (.long (0 : Int64)), .second, .val (.int ix11), .val (.long vx11), .second, .val (.int sx11), .val (.int bx11), .val (.long (hf v)), .second] [(.long (1 : Int64)), (.long vx11)]))
    refine own_by (fun _ k => XS.land X11.here hx rfl (hb hby d5_69) rfl k) ?_
    show OEnds p e below s _ _ _ (T11.setTop (mkF m 70 #[.val (.ref a), .val (.long of), .second, .val (.long sv), .second, .val (.long (0 : Int64)), .second, .val (.int ix11), .val (.long vx11), .second, .val (.int sx11), .val (.int bx11), .val (.long (hf v)), .second] [(.long (vx11 &&& (1 : Int64)))]))
    refine own_by (fun _ k => XS.lconst X11.here hx rfl (hb hby d5_70) k) ?_
    show OEnds p e below s _ _ _ (T11.setTop (mkF m 71 #[.val (.ref a), .val (.long of), .second, .val (.long sv), .second, .val (.long (0 : Int64)), .second, .val (.int ix11), .val (.long vx11), .second, .val (.int sx11), .val (.int bx11), .val (.long (hf v)), .second] [(.long (0 : Int64)), (.long (vx11 &&& (1 : Int64)))]))
    refine own_by (fun _ k => XS.lcmp X11.here hx rfl (hb hby d5_71) rfl k) ?_
    show OEnds p e below s _ _ _ (T11.setTop (mkF m 72 #[.val (.ref a), .val (.long of), .second, .val (.long sv), .second, .val (.long (0 : Int64)), .second, .val (.int ix11), .val (.long vx11), .second, .val (.int sx11), .val (.int bx11), .val (.long (hf v)), .second] [(.int (lcmpW (vx11 &&& (1 : Int64)) (0 : Int64)))]))
    by_cases hc72_12 : (vx11 &&& (1 : Int64)) = (0 : Int64)
    · refine own_by (fun _ k => XS.ifYes X11.here hx rfl (pc0 := 72) (pc' := 87) rfl (hb hby d5_72) rfl ((if0 _ _).trans (teq ((lw_eq _ _).mpr hc72_12)).1) (by decide) (by decide) k) ?_
      show OEnds p e below s _ _ _ (T11.setTop (mkF m 87 #[.val (.ref a), .val (.long of), .second, .val (.long sv), .second, .val (.long (0 : Int64)), .second, .val (.int ix11), .val (.long vx11), .second, .val (.int sx11), .val (.int bx11), .val (.long (hf v)), .second] []))
      refine own_by (fun _ k => XS.lloadN X11.here hx rfl (hb hby d5_87) rfl k) ?_
      show OEnds p e below s _ _ _ (T11.setTop (mkF m 88 #[.val (.ref a), .val (.long of), .second, .val (.long sv), .second, .val (.long (0 : Int64)), .second, .val (.int ix11), .val (.long vx11), .second, .val (.int sx11), .val (.int bx11), .val (.long (hf v)), .second] [(.long of)]))
      refine own_by (fun _ k => XS.lload X11.here hx rfl (hb hby d5_88) rfl k) ?_
      show OEnds p e below s _ _ _ (T11.setTop (mkF m 90 #[.val (.ref a), .val (.long of), .second, .val (.long sv), .second, .val (.long (0 : Int64)), .second, .val (.int ix11), .val (.long vx11), .second, .val (.int sx11), .val (.int bx11), .val (.long (hf v)), .second] [(.long (0 : Int64)), (.long of)]))
      refine own_by (fun _ k => XS.lload X11.here hx rfl (hb hby d5_90) rfl k) ?_
      show OEnds p e below s _ _ _ (T11.setTop (mkF m 92 #[.val (.ref a), .val (.long of), .second, .val (.long sv), .second, .val (.long (0 : Int64)), .second, .val (.int ix11), .val (.long vx11), .second, .val (.int sx11), .val (.int bx11), .val (.long (hf v)), .second] [(.long (hf v)), (.long (0 : Int64)), (.long of)]))
      refine own_by (fun _ k => XS.ladd X11.here hx rfl (hb hby d5_92) rfl k) ?_
      show OEnds p e below s _ _ _ (T11.setTop (mkF m 93 #[.val (.ref a), .val (.long of), .second, .val (.long sv), .second, .val (.long (0 : Int64)), .second, .val (.int ix11), .val (.long vx11), .second, .val (.int sx11), .val (.int bx11), .val (.long (hf v)), .second] [(.long ((0 : Int64) + (hf v))), (.long of)]))
      refine own_by (fun _ k => XS.lcmp X11.here hx rfl (hb hby d5_93) rfl k) ?_
      show OEnds p e below s _ _ _ (T11.setTop (mkF m 94 #[.val (.ref a), .val (.long of), .second, .val (.long sv), .second, .val (.long (0 : Int64)), .second, .val (.int ix11), .val (.long vx11), .second, .val (.int sx11), .val (.int bx11), .val (.long (hf v)), .second] [(.int (lcmpW of ((0 : Int64) + (hf v))))]))
      by_cases hc94_13 : of < ((0 : Int64) + (hf v))
      · refine own_by (fun _ k => XS.ifNo X11.here hx rfl (hb hby d5_94) rfl ((if0 _ _).trans (tlt ((lw_lt _ _).mpr hc94_13)).2.1) k) ?_
        show OEnds p e below s _ _ _ (T11.setTop (mkF m 97 #[.val (.ref a), .val (.long of), .second, .val (.long sv), .second, .val (.long (0 : Int64)), .second, .val (.int ix11), .val (.long vx11), .second, .val (.int sx11), .val (.int bx11), .val (.long (hf v)), .second] []))
        refine own_by (fun _ k => XS.lloadN X11.here hx rfl (hb hby d5_97) rfl k) ?_
        show OEnds p e below s _ _ _ (T11.setTop (mkF m 98 #[.val (.ref a), .val (.long of), .second, .val (.long sv), .second, .val (.long (0 : Int64)), .second, .val (.int ix11), .val (.long vx11), .second, .val (.int sx11), .val (.int bx11), .val (.long (hf v)), .second] [(.long sv)]))
        refine own_by (X11.ldc2Long hx hown (mvT hZ (hw _ (List.mem_of_getElem? (i := 35) rfl))) (g := (mkF m 98 #[.val (.ref a), .val (.long of), .second, .val (.long sv), .second, .val (.long (0 : Int64)), .second, .val (.int ix11), .val (.long vx11), .second, .val (.int sx11), .val (.int bx11), .val (.long (hf v)), .second] [(.long sv)])) rfl (hb hby d5_98)) ?_
        show OEnds p e below s _ _ _ (T11.setTop (mkF m 101 #[.val (.ref a), .val (.long of), .second, .val (.long sv), .second, .val (.long (0 : Int64)), .second, .val (.int ix11), .val (.long vx11), .second, .val (.int sx11), .val (.int bx11), .val (.long (hf v)), .second] [(.long (4 : Int64)), (.long sv)]))
        refine own_by (fun _ k => XS.ladd X11.here hx rfl (hb hby d5_101) rfl k) ?_
        show OEnds p e below s _ _ _ (T11.setTop (mkF m 102 #[.val (.ref a), .val (.long of), .second, .val (.long sv), .second, .val (.long (0 : Int64)), .second, .val (.int ix11), .val (.long vx11), .second, .val (.int sx11), .val (.int bx11), .val (.long (hf v)), .second] [(.long (sv + (4 : Int64)))]))
        refine own_by (fun _ k => XS.lloadN X11.here hx rfl (hb hby d5_102) rfl k) ?_
        show OEnds p e below s _ _ _ (T11.setTop (mkF m 103 #[.val (.ref a), .val (.long of), .second, .val (.long sv), .second, .val (.long (0 : Int64)), .second, .val (.int ix11), .val (.long vx11), .second, .val (.int sx11), .val (.int bx11), .val (.long (hf v)), .second] [(.long of), (.long (sv + (4 : Int64)))]))
        refine own_by (fun _ k => XS.ladd X11.here hx rfl (hb hby d5_103) rfl k) ?_
        show OEnds p e below s _ _ _ (T11.setTop (mkF m 104 #[.val (.ref a), .val (.long of), .second, .val (.long sv), .second, .val (.long (0 : Int64)), .second, .val (.int ix11), .val (.long vx11), .second, .val (.int sx11), .val (.int bx11), .val (.long (hf v)), .second] [(.long ((sv + (4 : Int64)) + of))]))
        refine own_by (fun _ k => XS.lload X11.here hx rfl (hb hby d5_104) rfl k) ?_
        show OEnds p e below s _ _ _ (T11.setTop (mkF m 106 #[.val (.ref a), .val (.long of), .second, .val (.long sv), .second, .val (.long (0 : Int64)), .second, .val (.int ix11), .val (.long vx11), .second, .val (.int sx11), .val (.int bx11), .val (.long (hf v)), .second] [(.long (0 : Int64)), (.long ((sv + (4 : Int64)) + of))]))
        refine own_by (fun _ k => XS.lsub X11.here hx rfl (hb hby d5_106) rfl k) ?_
        show OEnds p e below s _ _ _ (T11.setTop (mkF m 107 #[.val (.ref a), .val (.long of), .second, .val (.long sv), .second, .val (.long (0 : Int64)), .second, .val (.int ix11), .val (.long vx11), .second, .val (.int sx11), .val (.int bx11), .val (.long (hf v)), .second] [(.long (((sv + (4 : Int64)) + of) - (0 : Int64)))]))
        exact own_retJ X11 hx hlk Bd.returns (hb hby d5_107) ⟨congrArg (fun z => some (Value.long z)) ((scan_hit (even_of hvx hc72_12) hc94_13).symm.trans hres), hlo, e11⟩ (by decide) (by decide)
      · refine own_by (fun _ k => XS.ifYes X11.here hx rfl (pc0 := 94) (pc' := 108) rfl (hb hby d5_94) rfl ((if0 _ _).trans (flt (fun q => hc94_13 ((lw_lt _ _).mp q))).2.1) (by decide) (by decide) k) ?_
        show OEnds p e below s _ _ _ (T11.setTop (mkF m 108 #[.val (.ref a), .val (.long of), .second, .val (.long sv), .second, .val (.long (0 : Int64)), .second, .val (.int ix11), .val (.long vx11), .second, .val (.int sx11), .val (.int bx11), .val (.long (hf v)), .second] []))
        refine own_by (fun _ k => XS.lloadN X11.here hx rfl (hb hby d5_108) rfl k) ?_
        show OEnds p e below s _ _ _ (T11.setTop (mkF m 109 #[.val (.ref a), .val (.long of), .second, .val (.long sv), .second, .val (.long (0 : Int64)), .second, .val (.int ix11), .val (.long vx11), .second, .val (.int sx11), .val (.int bx11), .val (.long (hf v)), .second] [(.long sv)]))
        refine own_by (X11.ldc2Long hx hown (mvT hZ (hw _ (List.mem_of_getElem? (i := 35) rfl))) (g := (mkF m 109 #[.val (.ref a), .val (.long of), .second, .val (.long sv), .second, .val (.long (0 : Int64)), .second, .val (.int ix11), .val (.long vx11), .second, .val (.int sx11), .val (.int bx11), .val (.long (hf v)), .second] [(.long sv)])) rfl (hb hby d5_109)) ?_
        show OEnds p e below s _ _ _ (T11.setTop (mkF m 112 #[.val (.ref a), .val (.long of), .second, .val (.long sv), .second, .val (.long (0 : Int64)), .second, .val (.int ix11), .val (.long vx11), .second, .val (.int sx11), .val (.int bx11), .val (.long (hf v)), .second] [(.long (4 : Int64)), (.long sv)]))
        refine own_by (fun _ k => XS.lload X11.here hx rfl (hb hby d5_112) rfl k) ?_
        show OEnds p e below s _ _ _ (T11.setTop (mkF m 114 #[.val (.ref a), .val (.long of), .second, .val (.long sv), .second, .val (.long (0 : Int64)), .second, .val (.int ix11), .val (.long vx11), .second, .val (.int sx11), .val (.int bx11), .val (.long (hf v)), .second] [(.long (hf v)), (.long (4 : Int64)), (.long sv)]))
        refine own_by (fun _ k => XS.ladd X11.here hx rfl (hb hby d5_114) rfl k) ?_
        show OEnds p e below s _ _ _ (T11.setTop (mkF m 115 #[.val (.ref a), .val (.long of), .second, .val (.long sv), .second, .val (.long (0 : Int64)), .second, .val (.int ix11), .val (.long vx11), .second, .val (.int sx11), .val (.int bx11), .val (.long (hf v)), .second] [(.long ((4 : Int64) + (hf v))), (.long sv)]))
        refine own_by (fun _ k => XS.ladd X11.here hx rfl (hb hby d5_115) rfl k) ?_
        show OEnds p e below s _ _ _ (T11.setTop (mkF m 116 #[.val (.ref a), .val (.long of), .second, .val (.long sv), .second, .val (.long (0 : Int64)), .second, .val (.int ix11), .val (.long vx11), .second, .val (.int sx11), .val (.int bx11), .val (.long (hf v)), .second] [(.long (sv + ((4 : Int64) + (hf v))))]))
        refine own_by (fun _ k => XS.lstoreN X11.here hx rfl (hb hby d5_116) rfl (l' := #[.val (.ref a), .val (.long of), .second, .val (.long (sv + ((4 : Int64) + (hf v)))), .second, .val (.long (0 : Int64)), .second, .val (.int ix11), .val (.long vx11), .second, .val (.int sx11), .val (.int bx11), .val (.long (hf v)), .second]) rfl k) ?_
        show OEnds p e below s _ _ _ (T11.setTop (mkF m 117 #[.val (.ref a), .val (.long of), .second, .val (.long (sv + ((4 : Int64) + (hf v)))), .second, .val (.long (0 : Int64)), .second, .val (.int ix11), .val (.long vx11), .second, .val (.int sx11), .val (.int bx11), .val (.long (hf v)), .second] []))
        refine own_by (fun _ k => XS.lload X11.here hx rfl (hb hby d5_117) rfl k) ?_
        show OEnds p e below s _ _ _ (T11.setTop (mkF m 119 #[.val (.ref a), .val (.long of), .second, .val (.long (sv + ((4 : Int64) + (hf v)))), .second, .val (.long (0 : Int64)), .second, .val (.int ix11), .val (.long vx11), .second, .val (.int sx11), .val (.int bx11), .val (.long (hf v)), .second] [(.long (0 : Int64))]))
        refine own_by (fun _ k => XS.lload X11.here hx rfl (hb hby d5_119) rfl k) ?_
        show OEnds p e below s _ _ _ (T11.setTop (mkF m 121 #[.val (.ref a), .val (.long of), .second, .val (.long (sv + ((4 : Int64) + (hf v)))), .second, .val (.long (0 : Int64)), .second, .val (.int ix11), .val (.long vx11), .second, .val (.int sx11), .val (.int bx11), .val (.long (hf v)), .second] [(.long (hf v)), (.long (0 : Int64))]))
        refine own_by (fun _ k => XS.ladd X11.here hx rfl (hb hby d5_121) rfl k) ?_
        show OEnds p e below s _ _ _ (T11.setTop (mkF m 122 #[.val (.ref a), .val (.long of), .second, .val (.long (sv + ((4 : Int64) + (hf v)))), .second, .val (.long (0 : Int64)), .second, .val (.int ix11), .val (.long vx11), .second, .val (.int sx11), .val (.int bx11), .val (.long (hf v)), .second] [(.long ((0 : Int64) + (hf v)))]))
        refine own_by (fun _ k => XS.lstore X11.here hx rfl (hb hby d5_122) rfl (l' := #[.val (.ref a), .val (.long of), .second, .val (.long (sv + ((4 : Int64) + (hf v)))), .second, .val (.long ((0 : Int64) + (hf v))), .second, .val (.int ix11), .val (.long vx11), .second, .val (.int sx11), .val (.int bx11), .val (.long (hf v)), .second]) rfl k) ?_
        show OEnds p e below s _ _ _ (T11.setTop (mkF m 124 #[.val (.ref a), .val (.long of), .second, .val (.long (sv + ((4 : Int64) + (hf v)))), .second, .val (.long ((0 : Int64) + (hf v))), .second, .val (.int ix11), .val (.long vx11), .second, .val (.int sx11), .val (.int bx11), .val (.long (hf v)), .second] []))
        refine own_by (fun _ k => XS.goto X11.here hx rfl (pc0 := 124) (pc' := 11) rfl (hb hby d5_124) (by decide) (by decide) k) ?_
        show OEnds p e below s _ _ _ (T11.setTop (mkF m 11 #[.val (.ref a), .val (.long of), .second, .val (.long (sv + ((4 : Int64) + (hf v)))), .second, .val (.long ((0 : Int64) + (hf v))), .second, .val (.int ix11), .val (.long vx11), .second, .val (.int sx11), .val (.int bx11), .val (.long (hf v)), .second] []))
        exact o11 vs T11 _ (sv + ((4 : Int64) + (hf v))) ((0 : Int64) + (hf v)) ix11 vx11 sx11 bx11 (hf v) _ X11 e11 N0 hlo hix hEr ((scan_even (even_of hvx hc72_12) hc94_13).symm.trans hres)
    · refine own_by (fun _ k => XS.ifNo X11.here hx rfl (hb hby d5_72) rfl ((if0 _ _).trans (feq (fun q => hc72_12 ((lw_eq _ _).mp q))).1) k) ?_
      show OEnds p e below s _ _ _ (T11.setTop (mkF m 75 #[.val (.ref a), .val (.long of), .second, .val (.long sv), .second, .val (.long (0 : Int64)), .second, .val (.int ix11), .val (.long vx11), .second, .val (.int sx11), .val (.int bx11), .val (.long (hf v)), .second] []))
      refine own_by (fun _ k => XS.lloadN X11.here hx rfl (hb hby d5_75) rfl k) ?_
      show OEnds p e below s _ _ _ (T11.setTop (mkF m 76 #[.val (.ref a), .val (.long of), .second, .val (.long sv), .second, .val (.long (0 : Int64)), .second, .val (.int ix11), .val (.long vx11), .second, .val (.int sx11), .val (.int bx11), .val (.long (hf v)), .second] [(.long sv)]))
      refine own_by (fun _ k => XS.lload X11.here hx rfl (hb hby d5_76) rfl k) ?_
      show OEnds p e below s _ _ _ (T11.setTop (mkF m 78 #[.val (.ref a), .val (.long of), .second, .val (.long sv), .second, .val (.long (0 : Int64)), .second, .val (.int ix11), .val (.long vx11), .second, .val (.int sx11), .val (.int bx11), .val (.long (hf v)), .second] [(.long (hf v)), (.long sv)]))
      refine own_by (X11.ldc2Long hx hown (mvT hZ (hw _ (List.mem_of_getElem? (i := 35) rfl))) (g := (mkF m 78 #[.val (.ref a), .val (.long of), .second, .val (.long sv), .second, .val (.long (0 : Int64)), .second, .val (.int ix11), .val (.long vx11), .second, .val (.int sx11), .val (.int bx11), .val (.long (hf v)), .second] [(.long (hf v)), (.long sv)])) rfl (hb hby d5_78)) ?_
      show OEnds p e below s _ _ _ (T11.setTop (mkF m 81 #[.val (.ref a), .val (.long of), .second, .val (.long sv), .second, .val (.long (0 : Int64)), .second, .val (.int ix11), .val (.long vx11), .second, .val (.int sx11), .val (.int bx11), .val (.long (hf v)), .second] [(.long (4 : Int64)), (.long (hf v)), (.long sv)]))
      refine own_by (fun _ k => XS.lmul X11.here hx rfl (hb hby d5_81) rfl k) ?_
      show OEnds p e below s _ _ _ (T11.setTop (mkF m 82 #[.val (.ref a), .val (.long of), .second, .val (.long sv), .second, .val (.long (0 : Int64)), .second, .val (.int ix11), .val (.long vx11), .second, .val (.int sx11), .val (.int bx11), .val (.long (hf v)), .second] [(.long ((hf v) * (4 : Int64))), (.long sv)]))
      refine own_by (fun _ k => XS.ladd X11.here hx rfl (hb hby d5_82) rfl k) ?_
      show OEnds p e below s _ _ _ (T11.setTop (mkF m 83 #[.val (.ref a), .val (.long of), .second, .val (.long sv), .second, .val (.long (0 : Int64)), .second, .val (.int ix11), .val (.long vx11), .second, .val (.int sx11), .val (.int bx11), .val (.long (hf v)), .second] [(.long (sv + ((hf v) * (4 : Int64))))]))
      refine own_by (fun _ k => XS.lstoreN X11.here hx rfl (hb hby d5_83) rfl (l' := #[.val (.ref a), .val (.long of), .second, .val (.long (sv + ((hf v) * (4 : Int64)))), .second, .val (.long (0 : Int64)), .second, .val (.int ix11), .val (.long vx11), .second, .val (.int sx11), .val (.int bx11), .val (.long (hf v)), .second]) rfl k) ?_
      show OEnds p e below s _ _ _ (T11.setTop (mkF m 84 #[.val (.ref a), .val (.long of), .second, .val (.long (sv + ((hf v) * (4 : Int64)))), .second, .val (.long (0 : Int64)), .second, .val (.int ix11), .val (.long vx11), .second, .val (.int sx11), .val (.int bx11), .val (.long (hf v)), .second] []))
      refine own_by (fun _ k => XS.goto X11.here hx rfl (pc0 := 84) (pc' := 124) rfl (hb hby d5_84) (by decide) (by decide) k) ?_
      show OEnds p e below s _ _ _ (T11.setTop (mkF m 124 #[.val (.ref a), .val (.long of), .second, .val (.long (sv + ((hf v) * (4 : Int64)))), .second, .val (.long (0 : Int64)), .second, .val (.int ix11), .val (.long vx11), .second, .val (.int sx11), .val (.int bx11), .val (.long (hf v)), .second] []))
      refine own_by (fun _ k => XS.goto X11.here hx rfl (pc0 := 124) (pc' := 11) rfl (hb hby d5_124) (by decide) (by decide) k) ?_
      show OEnds p e below s _ _ _ (T11.setTop (mkF m 11 #[.val (.ref a), .val (.long of), .second, .val (.long (sv + ((hf v) * (4 : Int64)))), .second, .val (.long (0 : Int64)), .second, .val (.int ix11), .val (.long vx11), .second, .val (.int sx11), .val (.int bx11), .val (.long (hf v)), .second] []))
      exact o11 vs T11 _ (sv + ((hf v) * (4 : Int64))) (0 : Int64) ix11 vx11 sx11 bx11 (hf v) _ X11 e11 N0 hlo hix hEr ((scan_odd (odd_of hvx hc72_12)).symm.trans hres)
theorem own_nn32 (x : Int32) : 0 ≤ (x &&& (2147483647 : Int32)).toInt := by
  have h := c_mask x 2147483647 31 (by decide) (by decide)
  omega
theorem own_nn64 (x : Int64) : 0 ≤ (x &&& (9223372036854775807 : Int64)).toInt := by
  have h := c_maskL x 9223372036854775807 63 (by decide) (by decide)
  omega
theorem nn_cast {x : Int32} (h : 0 ≤ x.toInt) : x.toInt = ((x.toInt.toNat : Nat) : Int) := by omega
theorem nn_lt (x : Int32) : x.toInt.toNat < 2147483648 := by have := rng32 x; omega
theorem enc_one {f : Nat → Int32} {v : Nat} {bs : List Int32} (h : Enc v bs) (hl : bs.length ≤ 5) : EncAt (wrs f 0 bs) 0 [v] (0 + bs.length) := by
  refine ⟨bs, h, hl, fun j hj => ?_, rfl⟩
  rw [wrs, if_pos (by omega)]
  congr 1
  omega
theorem hf_twice {x : Int32} (h : 0 ≤ x.toInt) : hf (2 * x.toInt.toNat) = x.toInt64 := by
  have h1 := rng32 x
  apply Int64.toInt_inj.mp
  rw [hf_toInt (by omega), c_i2l]
  omega
theorem pl_hit {x : Int32} {q2 off em : Int64} (h : 0 ≤ x.toInt) (hl : off < x.toInt64) : scanF [2 * x.toInt.toNat] q2 (0 : Int64) off em = ((q2 + (4 : Int64)) + off) := by
  rw [scan_hit (by omega) (by rw [hf_twice h]; simpa using hl)]
  simp
theorem pl_miss {x : Int32} {q2 off em c : Int64} (h : 0 ≤ x.toInt) (hl : ¬ off < x.toInt64) (hc : em * (4 : Int64) = c) : scanF [2 * x.toInt.toNat] q2 (0 : Int64) off em = (((q2 + (4 : Int64)) + x.toInt64) + c) := by
  rw [scan_even (by omega) (by rw [hf_twice h]; simpa using hl), scanF, hf_twice h, hc, ← Int64.add_assoc q2 4]
theorem pl_nil {q2 off em c : Int64} (hc : em * (4 : Int64) = c) : scanF [] q2 (0 : Int64) off em = (q2 + c) := by rw [scanF, hc]
theorem pn_0 : plainName "com/example/fourfold/fourfold/xdr/FragmentMapBeginPinLaw" = true := by first | (simp [plainName, overriddenIn]; done) | decide +kernel
theorem ef_0 (m : MethodId) (x0 : Int64) (x1 : Int32) (x2 : Int64) (x3 : Int32) (x4 : Int64) (x5 : Int32) : entryFrame m #[(.long x0), (.int x1), (.long x2), (.int x3), (.long x4), (.int x5)] maxLocals = mkF m 0 #[.val (.long x0), .second, .val (.int x1), .val (.long x2), .second, .val (.int x3), .val (.long x4), .second, .val (.int x5), .unset, .unset, .unset, .unset, .unset, .unset, .unset, .unset, .unset, .unset, .unset, .unset, .unset, .unset, .unset] [] := by first | (simp [entryFrame, mkF, argsToLocals, Value.category, maxLocals]; done) | rfl
def QL (n0 : Nat) (v : Option Value) (h : Heap) (L : List Loc) : Prop := v = some (.int 1) ∧ Fr n0 L
set_option maxRecDepth 65536 in
set_option maxHeartbeats 40000000 in
theorem rm_law (l : Launch) (Z : State) (a0 : Array Value) (hw : ∀ d ∈ tables_1, d.before a0 Z = true) (ws : List Jvm.Cond) (q0 : Int64) (q1 : Int32) (q2 : Int64) (q3 : Int32) (q4 : Int64) (q5 : Int32) (h0 : Heap) (n0 : Nat) (Z0 : n0 ≤ h0.size) :
    MetFree l x (head1 (Jvm.Cond.code x code maxLocals ret :: ws) room_1) (fun a_ U => a_ = #[(.long q0), (.int q1), (.long q2), (.int q3), (.long q4), (.int q5)] ∧ Z.Warmed39 U.vm ∧ U.heap = h0) (fun _ _ _ _ _ => True) (fun _ U o U' => ∃ v_ L_, o = .returned v_ ∧ QL n0 v_ U'.heap L_ ∧ FrameEnd U o U' L_ room_1.cells room_1.slots) := by
  refine MetFree.of_bodySF (plainFor_of_name pn_0) hisR ?_
  intro p e s m args below meth c s₁ Bd hml0 hP hK
  obtain ⟨rfl, hZ, hh⟩ := hP
  have hx := Bd.exec
  have hby := Bd.bytes
  have hlk : meth.locks = false := Bd.notSynchronized
  have hml : c.maxLocals = 24 := hml0
  have hown : s.vm.findClass "com/example/fourfold/fourfold/xdr/FragmentMapBeginPinLaw" = some m.cls := findClass_of_methodNamed Bd.named
  have hnm := (name_of_methodNamed Bd.named Bd.method).1
  have X0 : Stand p l e room_1 s m #[(.long q0), (.int q1), (.long q2), (.int q3), (.long q4), (.int q5)] below meth c s₁ [] 0 0 := Stand.of_body Bd
  have e0 : s₁.heap = h0 := by rw [← hh, Bd.state]; rfl
  have N0 := Fr.nil n0
  have K0 : Keep h0 h0 [] := Keep.refl _ _
  show OEnds p e below s (QL n0) _ _ _
  refine own_by (fun t k => castTop (ef_0 m q0 q1 q2 q3 q4 q5) k) ?_
  show OEnds p e below s _ _ _ (s₁.setTop (mkF m 0 #[.val (.long q0), .second, .val (.int q1), .val (.long q2), .second, .val (.int q3), .val (.long q4), .second, .val (.int q5), .unset, .unset, .unset, .unset, .unset, .unset, .unset, .unset, .unset, .unset, .unset, .unset, .unset, .unset, .unset] []))
  refine own_by (fun _ k => XS.iloadN X0.here hx rfl (hb hby at_0) rfl k) ?_
  show OEnds p e below s _ _ _ (s₁.setTop (mkF m 1 #[.val (.long q0), .second, .val (.int q1), .val (.long q2), .second, .val (.int q3), .val (.long q4), .second, .val (.int q5), .unset, .unset, .unset, .unset, .unset, .unset, .unset, .unset, .unset, .unset, .unset, .unset, .unset, .unset, .unset] [(.int q1)]))
  refine own_by (X0.ldcInt hx hown (mvT hZ (hw _ (List.mem_of_getElem? (i := 0) rfl))) (g := (mkF m 1 #[.val (.long q0), .second, .val (.int q1), .val (.long q2), .second, .val (.int q3), .val (.long q4), .second, .val (.int q5), .unset, .unset, .unset, .unset, .unset, .unset, .unset, .unset, .unset, .unset, .unset, .unset, .unset, .unset, .unset] [(.int q1)])) rfl (hb hby at_1)) ?_
  show OEnds p e below s _ _ _ (s₁.setTop (mkF m 3 #[.val (.long q0), .second, .val (.int q1), .val (.long q2), .second, .val (.int q3), .val (.long q4), .second, .val (.int q5), .unset, .unset, .unset, .unset, .unset, .unset, .unset, .unset, .unset, .unset, .unset, .unset, .unset, .unset, .unset] [(.int (2147483647 : Int32)), (.int q1)]))
  refine own_by (fun _ k => XS.iand X0.here hx rfl (hb hby at_3) rfl k) ?_
  show OEnds p e below s _ _ _ (s₁.setTop (mkF m 4 #[.val (.long q0), .second, .val (.int q1), .val (.long q2), .second, .val (.int q3), .val (.long q4), .second, .val (.int q5), .unset, .unset, .unset, .unset, .unset, .unset, .unset, .unset, .unset, .unset, .unset, .unset, .unset, .unset, .unset] [(.int (q1 &&& (2147483647 : Int32)))]))
  refine own_by (fun _ k => XS.istore X0.here hx rfl (hb hby at_4) rfl (l' := #[.val (.long q0), .second, .val (.int q1), .val (.long q2), .second, .val (.int q3), .val (.long q4), .second, .val (.int q5), .val (.int (q1 &&& (2147483647 : Int32))), .unset, .unset, .unset, .unset, .unset, .unset, .unset, .unset, .unset, .unset, .unset, .unset, .unset, .unset]) rfl k) ?_
  show OEnds p e below s _ _ _ (s₁.setTop (mkF m 6 #[.val (.long q0), .second, .val (.int q1), .val (.long q2), .second, .val (.int q3), .val (.long q4), .second, .val (.int q5), .val (.int (q1 &&& (2147483647 : Int32))), .unset, .unset, .unset, .unset, .unset, .unset, .unset, .unset, .unset, .unset, .unset, .unset, .unset, .unset] []))
  refine own_by (fun _ k => XS.iload X0.here hx rfl (hb hby at_6) rfl k) ?_
  show OEnds p e below s _ _ _ (s₁.setTop (mkF m 8 #[.val (.long q0), .second, .val (.int q1), .val (.long q2), .second, .val (.int q3), .val (.long q4), .second, .val (.int q5), .val (.int (q1 &&& (2147483647 : Int32))), .unset, .unset, .unset, .unset, .unset, .unset, .unset, .unset, .unset, .unset, .unset, .unset, .unset, .unset] [(.int q3)]))
  refine own_by (X0.ldcInt hx hown (mvT hZ (hw _ (List.mem_of_getElem? (i := 0) rfl))) (g := (mkF m 8 #[.val (.long q0), .second, .val (.int q1), .val (.long q2), .second, .val (.int q3), .val (.long q4), .second, .val (.int q5), .val (.int (q1 &&& (2147483647 : Int32))), .unset, .unset, .unset, .unset, .unset, .unset, .unset, .unset, .unset, .unset, .unset, .unset, .unset, .unset] [(.int q3)])) rfl (hb hby at_8)) ?_
  show OEnds p e below s _ _ _ (s₁.setTop (mkF m 10 #[.val (.long q0), .second, .val (.int q1), .val (.long q2), .second, .val (.int q3), .val (.long q4), .second, .val (.int q5), .val (.int (q1 &&& (2147483647 : Int32))), .unset, .unset, .unset, .unset, .unset, .unset, .unset, .unset, .unset, .unset, .unset, .unset, .unset, .unset] [(.int (2147483647 : Int32)), (.int q3)]))
  refine own_by (fun _ k => XS.iand X0.here hx rfl (hb hby at_10) rfl k) ?_
  show OEnds p e below s _ _ _ (s₁.setTop (mkF m 11 #[.val (.long q0), .second, .val (.int q1), .val (.long q2), .second, .val (.int q3), .val (.long q4), .second, .val (.int q5), .val (.int (q1 &&& (2147483647 : Int32))), .unset, .unset, .unset, .unset, .unset, .unset, .unset, .unset, .unset, .unset, .unset, .unset, .unset, .unset] [(.int (q3 &&& (2147483647 : Int32)))]))
  refine own_by (fun _ k => XS.istore X0.here hx rfl (hb hby at_11) rfl (l' := #[.val (.long q0), .second, .val (.int q1), .val (.long q2), .second, .val (.int q3), .val (.long q4), .second, .val (.int q5), .val (.int (q1 &&& (2147483647 : Int32))), .val (.int (q3 &&& (2147483647 : Int32))), .unset, .unset, .unset, .unset, .unset, .unset, .unset, .unset, .unset, .unset, .unset, .unset, .unset]) rfl k) ?_
  show OEnds p e below s _ _ _ (s₁.setTop (mkF m 13 #[.val (.long q0), .second, .val (.int q1), .val (.long q2), .second, .val (.int q3), .val (.long q4), .second, .val (.int q5), .val (.int (q1 &&& (2147483647 : Int32))), .val (.int (q3 &&& (2147483647 : Int32))), .unset, .unset, .unset, .unset, .unset, .unset, .unset, .unset, .unset, .unset, .unset, .unset, .unset] []))
  refine own_by (fun _ k => XS.lload X0.here hx rfl (hb hby at_13) rfl k) ?_
  show OEnds p e below s _ _ _ (s₁.setTop (mkF m 15 #[.val (.long q0), .second, .val (.int q1), .val (.long q2), .second, .val (.int q3), .val (.long q4), .second, .val (.int q5), .val (.int (q1 &&& (2147483647 : Int32))), .val (.int (q3 &&& (2147483647 : Int32))), .unset, .unset, .unset, .unset, .unset, .unset, .unset, .unset, .unset, .unset, .unset, .unset, .unset] [(.long q4)]))
  refine own_by (X0.ldc2Long hx hown (mvT hZ (hw _ (List.mem_of_getElem? (i := 1) rfl))) (g := (mkF m 15 #[.val (.long q0), .second, .val (.int q1), .val (.long q2), .second, .val (.int q3), .val (.long q4), .second, .val (.int q5), .val (.int (q1 &&& (2147483647 : Int32))), .val (.int (q3 &&& (2147483647 : Int32))), .unset, .unset, .unset, .unset, .unset, .unset, .unset, .unset, .unset, .unset, .unset, .unset, .unset] [(.long q4)])) rfl (hb hby at_15)) ?_
  show OEnds p e below s _ _ _ (s₁.setTop (mkF m 18 #[.val (.long q0), .second, .val (.int q1), .val (.long q2), .second, .val (.int q3), .val (.long q4), .second, .val (.int q5), .val (.int (q1 &&& (2147483647 : Int32))), .val (.int (q3 &&& (2147483647 : Int32))), .unset, .unset, .unset, .unset, .unset, .unset, .unset, .unset, .unset, .unset, .unset, .unset, .unset] [(.long (9223372036854775807 : Int64)), (.long q4)]))
  refine own_by (fun _ k => XS.land X0.here hx rfl (hb hby at_18) rfl k) ?_
  show OEnds p e below s _ _ _ (s₁.setTop (mkF m 19 #[.val (.long q0), .second, .val (.int q1), .val (.long q2), .second, .val (.int q3), .val (.long q4), .second, .val (.int q5), .val (.int (q1 &&& (2147483647 : Int32))), .val (.int (q3 &&& (2147483647 : Int32))), .unset, .unset, .unset, .unset, .unset, .unset, .unset, .unset, .unset, .unset, .unset, .unset, .unset] [(.long (q4 &&& (9223372036854775807 : Int64)))]))
  refine own_by (fun _ k => XS.lstore X0.here hx rfl (hb hby at_19) rfl (l' := #[.val (.long q0), .second, .val (.int q1), .val (.long q2), .second, .val (.int q3), .val (.long q4), .second, .val (.int q5), .val (.int (q1 &&& (2147483647 : Int32))), .val (.int (q3 &&& (2147483647 : Int32))), .val (.long (q4 &&& (9223372036854775807 : Int64))), .second, .unset, .unset, .unset, .unset, .unset, .unset, .unset, .unset, .unset, .unset, .unset]) rfl k) ?_
  show OEnds p e below s _ _ _ (s₁.setTop (mkF m 21 #[.val (.long q0), .second, .val (.int q1), .val (.long q2), .second, .val (.int q3), .val (.long q4), .second, .val (.int q5), .val (.int (q1 &&& (2147483647 : Int32))), .val (.int (q3 &&& (2147483647 : Int32))), .val (.long (q4 &&& (9223372036854775807 : Int64))), .second, .unset, .unset, .unset, .unset, .unset, .unset, .unset, .unset, .unset, .unset, .unset] []))
  refine own_by (fun _ k => XS.iload X0.here hx rfl (hb hby at_21) rfl k) ?_
  show OEnds p e below s _ _ _ (s₁.setTop (mkF m 23 #[.val (.long q0), .second, .val (.int q1), .val (.long q2), .second, .val (.int q3), .val (.long q4), .second, .val (.int q5), .val (.int (q1 &&& (2147483647 : Int32))), .val (.int (q3 &&& (2147483647 : Int32))), .val (.long (q4 &&& (9223372036854775807 : Int64))), .second, .unset, .unset, .unset, .unset, .unset, .unset, .unset, .unset, .unset, .unset, .unset] [(.int q5)]))
  refine own_by (fun _ k => XS.iconst X0.here hx rfl (hb hby at_23) k) ?_
  show OEnds p e below s _ _ _ (s₁.setTop (mkF m 24 #[.val (.long q0), .second, .val (.int q1), .val (.long q2), .second, .val (.int q3), .val (.long q4), .second, .val (.int q5), .val (.int (q1 &&& (2147483647 : Int32))), .val (.int (q3 &&& (2147483647 : Int32))), .val (.long (q4 &&& (9223372036854775807 : Int64))), .second, .unset, .unset, .unset, .unset, .unset, .unset, .unset, .unset, .unset, .unset, .unset] [(.int (1 : Int32)), (.int q5)]))
  refine own_by (fun _ k => XS.iand X0.here hx rfl (hb hby at_24) rfl k) ?_
  show OEnds p e below s _ _ _ (s₁.setTop (mkF m 25 #[.val (.long q0), .second, .val (.int q1), .val (.long q2), .second, .val (.int q3), .val (.long q4), .second, .val (.int q5), .val (.int (q1 &&& (2147483647 : Int32))), .val (.int (q3 &&& (2147483647 : Int32))), .val (.long (q4 &&& (9223372036854775807 : Int64))), .second, .unset, .unset, .unset, .unset, .unset, .unset, .unset, .unset, .unset, .unset, .unset] [(.int (q5 &&& (1 : Int32)))]))
  refine own_by (S' := s₁.setTop (mkF m 33 #[.val (.long q0), .second, .val (.int q1), .val (.long q2), .second, .val (.int q3), .val (.long q4), .second, .val (.int q5), .val (.int (q1 &&& (2147483647 : Int32))), .val (.int (q3 &&& (2147483647 : Int32))), .val (.long (q4 &&& (9223372036854775807 : Int64))), .second, .unset, .unset, .unset, .unset, .unset, .unset, .unset, .unset, .unset, .unset, .unset] [(.int (if (q5 &&& (1 : Int32)) = (0 : Int32) then (0 : Int32) else (1 : Int32)))])) (fun t k => ?_) ?_
  · by_cases hc25_1 : (q5 &&& (1 : Int32)) = (0 : Int32)
    · rw [if_pos hc25_1] at k
      refine XS.ifYes X0.here hx rfl (pc0 := 25) (pc' := 32) rfl (hb hby at_25) rfl ((if0 _ _).trans (teq hc25_1).1) (by decide) (by decide) ?_
      show Steps p.tables e below (s₁.setTop (mkF m 32 #[.val (.long q0), .second, .val (.int q1), .val (.long q2), .second, .val (.int q3), .val (.long q4), .second, .val (.int q5), .val (.int (q1 &&& (2147483647 : Int32))), .val (.int (q3 &&& (2147483647 : Int32))), .val (.long (q4 &&& (9223372036854775807 : Int64))), .second, .unset, .unset, .unset, .unset, .unset, .unset, .unset, .unset, .unset, .unset, .unset] [])) t
      refine XS.iconst X0.here hx rfl (hb hby at_32) ?_
      show Steps p.tables e below (s₁.setTop (mkF m 33 #[.val (.long q0), .second, .val (.int q1), .val (.long q2), .second, .val (.int q3), .val (.long q4), .second, .val (.int q5), .val (.int (q1 &&& (2147483647 : Int32))), .val (.int (q3 &&& (2147483647 : Int32))), .val (.long (q4 &&& (9223372036854775807 : Int64))), .second, .unset, .unset, .unset, .unset, .unset, .unset, .unset, .unset, .unset, .unset, .unset] [(.int (0 : Int32))])) t
      exact k
    · rw [if_neg hc25_1] at k
      refine XS.ifNo X0.here hx rfl (hb hby at_25) rfl ((if0 _ _).trans (feq hc25_1).1) ?_
      show Steps p.tables e below (s₁.setTop (mkF m 28 #[.val (.long q0), .second, .val (.int q1), .val (.long q2), .second, .val (.int q3), .val (.long q4), .second, .val (.int q5), .val (.int (q1 &&& (2147483647 : Int32))), .val (.int (q3 &&& (2147483647 : Int32))), .val (.long (q4 &&& (9223372036854775807 : Int64))), .second, .unset, .unset, .unset, .unset, .unset, .unset, .unset, .unset, .unset, .unset, .unset] [])) t
      refine XS.iconst X0.here hx rfl (hb hby at_28) ?_
      show Steps p.tables e below (s₁.setTop (mkF m 29 #[.val (.long q0), .second, .val (.int q1), .val (.long q2), .second, .val (.int q3), .val (.long q4), .second, .val (.int q5), .val (.int (q1 &&& (2147483647 : Int32))), .val (.int (q3 &&& (2147483647 : Int32))), .val (.long (q4 &&& (9223372036854775807 : Int64))), .second, .unset, .unset, .unset, .unset, .unset, .unset, .unset, .unset, .unset, .unset, .unset] [(.int (1 : Int32))])) t
      refine XS.goto X0.here hx rfl (pc0 := 29) (pc' := 33) rfl (hb hby at_29) (by decide) (by decide) ?_
      show Steps p.tables e below (s₁.setTop (mkF m 33 #[.val (.long q0), .second, .val (.int q1), .val (.long q2), .second, .val (.int q3), .val (.long q4), .second, .val (.int q5), .val (.int (q1 &&& (2147483647 : Int32))), .val (.int (q3 &&& (2147483647 : Int32))), .val (.long (q4 &&& (9223372036854775807 : Int64))), .second, .unset, .unset, .unset, .unset, .unset, .unset, .unset, .unset, .unset, .unset, .unset] [(.int (1 : Int32))])) t
      exact k
  show OEnds p e below s _ _ _ (s₁.setTop (mkF m 33 #[.val (.long q0), .second, .val (.int q1), .val (.long q2), .second, .val (.int q3), .val (.long q4), .second, .val (.int q5), .val (.int (q1 &&& (2147483647 : Int32))), .val (.int (q3 &&& (2147483647 : Int32))), .val (.long (q4 &&& (9223372036854775807 : Int64))), .second, .unset, .unset, .unset, .unset, .unset, .unset, .unset, .unset, .unset, .unset, .unset] [(.int (if (q5 &&& (1 : Int32)) = (0 : Int32) then (0 : Int32) else (1 : Int32)))]))
  refine own_by (fun _ k => XS.istore X0.here hx rfl (hb hby at_33) rfl (l' := #[.val (.long q0), .second, .val (.int q1), .val (.long q2), .second, .val (.int q3), .val (.long q4), .second, .val (.int q5), .val (.int (q1 &&& (2147483647 : Int32))), .val (.int (q3 &&& (2147483647 : Int32))), .val (.long (q4 &&& (9223372036854775807 : Int64))), .second, .val (.int (if (q5 &&& (1 : Int32)) = (0 : Int32) then (0 : Int32) else (1 : Int32))), .unset, .unset, .unset, .unset, .unset, .unset, .unset, .unset, .unset, .unset]) rfl k) ?_
  show OEnds p e below s _ _ _ (s₁.setTop (mkF m 35 #[.val (.long q0), .second, .val (.int q1), .val (.long q2), .second, .val (.int q3), .val (.long q4), .second, .val (.int q5), .val (.int (q1 &&& (2147483647 : Int32))), .val (.int (q3 &&& (2147483647 : Int32))), .val (.long (q4 &&& (9223372036854775807 : Int64))), .second, .val (.int (if (q5 &&& (1 : Int32)) = (0 : Int32) then (0 : Int32) else (1 : Int32))), .unset, .unset, .unset, .unset, .unset, .unset, .unset, .unset, .unset, .unset] []))
  refine own_by (fun _ k => XS.iload X0.here hx rfl (hb hby at_35) rfl k) ?_
  show OEnds p e below s _ _ _ (s₁.setTop (mkF m 37 #[.val (.long q0), .second, .val (.int q1), .val (.long q2), .second, .val (.int q3), .val (.long q4), .second, .val (.int q5), .val (.int (q1 &&& (2147483647 : Int32))), .val (.int (q3 &&& (2147483647 : Int32))), .val (.long (q4 &&& (9223372036854775807 : Int64))), .second, .val (.int (if (q5 &&& (1 : Int32)) = (0 : Int32) then (0 : Int32) else (1 : Int32))), .unset, .unset, .unset, .unset, .unset, .unset, .unset, .unset, .unset, .unset] [(.int q5)]))
  refine own_by (fun _ k => XS.iconst X0.here hx rfl (hb hby at_37) k) ?_
  show OEnds p e below s _ _ _ (s₁.setTop (mkF m 38 #[.val (.long q0), .second, .val (.int q1), .val (.long q2), .second, .val (.int q3), .val (.long q4), .second, .val (.int q5), .val (.int (q1 &&& (2147483647 : Int32))), .val (.int (q3 &&& (2147483647 : Int32))), .val (.long (q4 &&& (9223372036854775807 : Int64))), .second, .val (.int (if (q5 &&& (1 : Int32)) = (0 : Int32) then (0 : Int32) else (1 : Int32))), .unset, .unset, .unset, .unset, .unset, .unset, .unset, .unset, .unset, .unset] [(.int (2 : Int32)), (.int q5)]))
  refine own_by (fun _ k => XS.iand X0.here hx rfl (hb hby at_38) rfl k) ?_
  show OEnds p e below s _ _ _ (s₁.setTop (mkF m 39 #[.val (.long q0), .second, .val (.int q1), .val (.long q2), .second, .val (.int q3), .val (.long q4), .second, .val (.int q5), .val (.int (q1 &&& (2147483647 : Int32))), .val (.int (q3 &&& (2147483647 : Int32))), .val (.long (q4 &&& (9223372036854775807 : Int64))), .second, .val (.int (if (q5 &&& (1 : Int32)) = (0 : Int32) then (0 : Int32) else (1 : Int32))), .unset, .unset, .unset, .unset, .unset, .unset, .unset, .unset, .unset, .unset] [(.int (q5 &&& (2 : Int32)))]))
  refine own_by (S' := s₁.setTop (mkF m 47 #[.val (.long q0), .second, .val (.int q1), .val (.long q2), .second, .val (.int q3), .val (.long q4), .second, .val (.int q5), .val (.int (q1 &&& (2147483647 : Int32))), .val (.int (q3 &&& (2147483647 : Int32))), .val (.long (q4 &&& (9223372036854775807 : Int64))), .second, .val (.int (if (q5 &&& (1 : Int32)) = (0 : Int32) then (0 : Int32) else (1 : Int32))), .unset, .unset, .unset, .unset, .unset, .unset, .unset, .unset, .unset, .unset] [(.int (if (q5 &&& (2 : Int32)) = (0 : Int32) then (0 : Int32) else (1 : Int32)))])) (fun t k => ?_) ?_
  · by_cases hc39_2 : (q5 &&& (2 : Int32)) = (0 : Int32)
    · rw [if_pos hc39_2] at k
      refine XS.ifYes X0.here hx rfl (pc0 := 39) (pc' := 46) rfl (hb hby at_39) rfl ((if0 _ _).trans (teq hc39_2).1) (by decide) (by decide) ?_
      show Steps p.tables e below (s₁.setTop (mkF m 46 #[.val (.long q0), .second, .val (.int q1), .val (.long q2), .second, .val (.int q3), .val (.long q4), .second, .val (.int q5), .val (.int (q1 &&& (2147483647 : Int32))), .val (.int (q3 &&& (2147483647 : Int32))), .val (.long (q4 &&& (9223372036854775807 : Int64))), .second, .val (.int (if (q5 &&& (1 : Int32)) = (0 : Int32) then (0 : Int32) else (1 : Int32))), .unset, .unset, .unset, .unset, .unset, .unset, .unset, .unset, .unset, .unset] [])) t
      refine XS.iconst X0.here hx rfl (hb hby at_46) ?_
      show Steps p.tables e below (s₁.setTop (mkF m 47 #[.val (.long q0), .second, .val (.int q1), .val (.long q2), .second, .val (.int q3), .val (.long q4), .second, .val (.int q5), .val (.int (q1 &&& (2147483647 : Int32))), .val (.int (q3 &&& (2147483647 : Int32))), .val (.long (q4 &&& (9223372036854775807 : Int64))), .second, .val (.int (if (q5 &&& (1 : Int32)) = (0 : Int32) then (0 : Int32) else (1 : Int32))), .unset, .unset, .unset, .unset, .unset, .unset, .unset, .unset, .unset, .unset] [(.int (0 : Int32))])) t
      exact k
    · rw [if_neg hc39_2] at k
      refine XS.ifNo X0.here hx rfl (hb hby at_39) rfl ((if0 _ _).trans (feq hc39_2).1) ?_
      show Steps p.tables e below (s₁.setTop (mkF m 42 #[.val (.long q0), .second, .val (.int q1), .val (.long q2), .second, .val (.int q3), .val (.long q4), .second, .val (.int q5), .val (.int (q1 &&& (2147483647 : Int32))), .val (.int (q3 &&& (2147483647 : Int32))), .val (.long (q4 &&& (9223372036854775807 : Int64))), .second, .val (.int (if (q5 &&& (1 : Int32)) = (0 : Int32) then (0 : Int32) else (1 : Int32))), .unset, .unset, .unset, .unset, .unset, .unset, .unset, .unset, .unset, .unset] [])) t
      refine XS.iconst X0.here hx rfl (hb hby at_42) ?_
      show Steps p.tables e below (s₁.setTop (mkF m 43 #[.val (.long q0), .second, .val (.int q1), .val (.long q2), .second, .val (.int q3), .val (.long q4), .second, .val (.int q5), .val (.int (q1 &&& (2147483647 : Int32))), .val (.int (q3 &&& (2147483647 : Int32))), .val (.long (q4 &&& (9223372036854775807 : Int64))), .second, .val (.int (if (q5 &&& (1 : Int32)) = (0 : Int32) then (0 : Int32) else (1 : Int32))), .unset, .unset, .unset, .unset, .unset, .unset, .unset, .unset, .unset, .unset] [(.int (1 : Int32))])) t
      refine XS.goto X0.here hx rfl (pc0 := 43) (pc' := 47) rfl (hb hby at_43) (by decide) (by decide) ?_
      show Steps p.tables e below (s₁.setTop (mkF m 47 #[.val (.long q0), .second, .val (.int q1), .val (.long q2), .second, .val (.int q3), .val (.long q4), .second, .val (.int q5), .val (.int (q1 &&& (2147483647 : Int32))), .val (.int (q3 &&& (2147483647 : Int32))), .val (.long (q4 &&& (9223372036854775807 : Int64))), .second, .val (.int (if (q5 &&& (1 : Int32)) = (0 : Int32) then (0 : Int32) else (1 : Int32))), .unset, .unset, .unset, .unset, .unset, .unset, .unset, .unset, .unset, .unset] [(.int (1 : Int32))])) t
      exact k
  show OEnds p e below s _ _ _ (s₁.setTop (mkF m 47 #[.val (.long q0), .second, .val (.int q1), .val (.long q2), .second, .val (.int q3), .val (.long q4), .second, .val (.int q5), .val (.int (q1 &&& (2147483647 : Int32))), .val (.int (q3 &&& (2147483647 : Int32))), .val (.long (q4 &&& (9223372036854775807 : Int64))), .second, .val (.int (if (q5 &&& (1 : Int32)) = (0 : Int32) then (0 : Int32) else (1 : Int32))), .unset, .unset, .unset, .unset, .unset, .unset, .unset, .unset, .unset, .unset] [(.int (if (q5 &&& (2 : Int32)) = (0 : Int32) then (0 : Int32) else (1 : Int32)))]))
  refine own_by (fun _ k => XS.istore X0.here hx rfl (hb hby at_47) rfl (l' := #[.val (.long q0), .second, .val (.int q1), .val (.long q2), .second, .val (.int q3), .val (.long q4), .second, .val (.int q5), .val (.int (q1 &&& (2147483647 : Int32))), .val (.int (q3 &&& (2147483647 : Int32))), .val (.long (q4 &&& (9223372036854775807 : Int64))), .second, .val (.int (if (q5 &&& (1 : Int32)) = (0 : Int32) then (0 : Int32) else (1 : Int32))), .val (.int (if (q5 &&& (2 : Int32)) = (0 : Int32) then (0 : Int32) else (1 : Int32))), .unset, .unset, .unset, .unset, .unset, .unset, .unset, .unset, .unset]) rfl k) ?_
  show OEnds p e below s _ _ _ (s₁.setTop (mkF m 49 #[.val (.long q0), .second, .val (.int q1), .val (.long q2), .second, .val (.int q3), .val (.long q4), .second, .val (.int q5), .val (.int (q1 &&& (2147483647 : Int32))), .val (.int (q3 &&& (2147483647 : Int32))), .val (.long (q4 &&& (9223372036854775807 : Int64))), .second, .val (.int (if (q5 &&& (1 : Int32)) = (0 : Int32) then (0 : Int32) else (1 : Int32))), .val (.int (if (q5 &&& (2 : Int32)) = (0 : Int32) then (0 : Int32) else (1 : Int32))), .unset, .unset, .unset, .unset, .unset, .unset, .unset, .unset, .unset] []))
  refine own_by (fun _ k => XS.iload X0.here hx rfl (hb hby at_49) rfl k) ?_
  show OEnds p e below s _ _ _ (s₁.setTop (mkF m 51 #[.val (.long q0), .second, .val (.int q1), .val (.long q2), .second, .val (.int q3), .val (.long q4), .second, .val (.int q5), .val (.int (q1 &&& (2147483647 : Int32))), .val (.int (q3 &&& (2147483647 : Int32))), .val (.long (q4 &&& (9223372036854775807 : Int64))), .second, .val (.int (if (q5 &&& (1 : Int32)) = (0 : Int32) then (0 : Int32) else (1 : Int32))), .val (.int (if (q5 &&& (2 : Int32)) = (0 : Int32) then (0 : Int32) else (1 : Int32))), .unset, .unset, .unset, .unset, .unset, .unset, .unset, .unset, .unset] [(.int q5)]))
  refine own_by (fun _ k => XS.iconst X0.here hx rfl (hb hby at_51) k) ?_
  show OEnds p e below s _ _ _ (s₁.setTop (mkF m 52 #[.val (.long q0), .second, .val (.int q1), .val (.long q2), .second, .val (.int q3), .val (.long q4), .second, .val (.int q5), .val (.int (q1 &&& (2147483647 : Int32))), .val (.int (q3 &&& (2147483647 : Int32))), .val (.long (q4 &&& (9223372036854775807 : Int64))), .second, .val (.int (if (q5 &&& (1 : Int32)) = (0 : Int32) then (0 : Int32) else (1 : Int32))), .val (.int (if (q5 &&& (2 : Int32)) = (0 : Int32) then (0 : Int32) else (1 : Int32))), .unset, .unset, .unset, .unset, .unset, .unset, .unset, .unset, .unset] [(.int (4 : Int32)), (.int q5)]))
  refine own_by (fun _ k => XS.iand X0.here hx rfl (hb hby at_52) rfl k) ?_
  show OEnds p e below s _ _ _ (s₁.setTop (mkF m 53 #[.val (.long q0), .second, .val (.int q1), .val (.long q2), .second, .val (.int q3), .val (.long q4), .second, .val (.int q5), .val (.int (q1 &&& (2147483647 : Int32))), .val (.int (q3 &&& (2147483647 : Int32))), .val (.long (q4 &&& (9223372036854775807 : Int64))), .second, .val (.int (if (q5 &&& (1 : Int32)) = (0 : Int32) then (0 : Int32) else (1 : Int32))), .val (.int (if (q5 &&& (2 : Int32)) = (0 : Int32) then (0 : Int32) else (1 : Int32))), .unset, .unset, .unset, .unset, .unset, .unset, .unset, .unset, .unset] [(.int (q5 &&& (4 : Int32)))]))
  refine own_by (S' := s₁.setTop (mkF m 61 #[.val (.long q0), .second, .val (.int q1), .val (.long q2), .second, .val (.int q3), .val (.long q4), .second, .val (.int q5), .val (.int (q1 &&& (2147483647 : Int32))), .val (.int (q3 &&& (2147483647 : Int32))), .val (.long (q4 &&& (9223372036854775807 : Int64))), .second, .val (.int (if (q5 &&& (1 : Int32)) = (0 : Int32) then (0 : Int32) else (1 : Int32))), .val (.int (if (q5 &&& (2 : Int32)) = (0 : Int32) then (0 : Int32) else (1 : Int32))), .unset, .unset, .unset, .unset, .unset, .unset, .unset, .unset, .unset] [(.int (if (q5 &&& (4 : Int32)) = (0 : Int32) then (0 : Int32) else (1 : Int32)))])) (fun t k => ?_) ?_
  · by_cases hc53_3 : (q5 &&& (4 : Int32)) = (0 : Int32)
    · rw [if_pos hc53_3] at k
      refine XS.ifYes X0.here hx rfl (pc0 := 53) (pc' := 60) rfl (hb hby at_53) rfl ((if0 _ _).trans (teq hc53_3).1) (by decide) (by decide) ?_
      show Steps p.tables e below (s₁.setTop (mkF m 60 #[.val (.long q0), .second, .val (.int q1), .val (.long q2), .second, .val (.int q3), .val (.long q4), .second, .val (.int q5), .val (.int (q1 &&& (2147483647 : Int32))), .val (.int (q3 &&& (2147483647 : Int32))), .val (.long (q4 &&& (9223372036854775807 : Int64))), .second, .val (.int (if (q5 &&& (1 : Int32)) = (0 : Int32) then (0 : Int32) else (1 : Int32))), .val (.int (if (q5 &&& (2 : Int32)) = (0 : Int32) then (0 : Int32) else (1 : Int32))), .unset, .unset, .unset, .unset, .unset, .unset, .unset, .unset, .unset] [])) t
      refine XS.iconst X0.here hx rfl (hb hby at_60) ?_
      show Steps p.tables e below (s₁.setTop (mkF m 61 #[.val (.long q0), .second, .val (.int q1), .val (.long q2), .second, .val (.int q3), .val (.long q4), .second, .val (.int q5), .val (.int (q1 &&& (2147483647 : Int32))), .val (.int (q3 &&& (2147483647 : Int32))), .val (.long (q4 &&& (9223372036854775807 : Int64))), .second, .val (.int (if (q5 &&& (1 : Int32)) = (0 : Int32) then (0 : Int32) else (1 : Int32))), .val (.int (if (q5 &&& (2 : Int32)) = (0 : Int32) then (0 : Int32) else (1 : Int32))), .unset, .unset, .unset, .unset, .unset, .unset, .unset, .unset, .unset] [(.int (0 : Int32))])) t
      exact k
    · rw [if_neg hc53_3] at k
      refine XS.ifNo X0.here hx rfl (hb hby at_53) rfl ((if0 _ _).trans (feq hc53_3).1) ?_
      show Steps p.tables e below (s₁.setTop (mkF m 56 #[.val (.long q0), .second, .val (.int q1), .val (.long q2), .second, .val (.int q3), .val (.long q4), .second, .val (.int q5), .val (.int (q1 &&& (2147483647 : Int32))), .val (.int (q3 &&& (2147483647 : Int32))), .val (.long (q4 &&& (9223372036854775807 : Int64))), .second, .val (.int (if (q5 &&& (1 : Int32)) = (0 : Int32) then (0 : Int32) else (1 : Int32))), .val (.int (if (q5 &&& (2 : Int32)) = (0 : Int32) then (0 : Int32) else (1 : Int32))), .unset, .unset, .unset, .unset, .unset, .unset, .unset, .unset, .unset] [])) t
      refine XS.iconst X0.here hx rfl (hb hby at_56) ?_
      show Steps p.tables e below (s₁.setTop (mkF m 57 #[.val (.long q0), .second, .val (.int q1), .val (.long q2), .second, .val (.int q3), .val (.long q4), .second, .val (.int q5), .val (.int (q1 &&& (2147483647 : Int32))), .val (.int (q3 &&& (2147483647 : Int32))), .val (.long (q4 &&& (9223372036854775807 : Int64))), .second, .val (.int (if (q5 &&& (1 : Int32)) = (0 : Int32) then (0 : Int32) else (1 : Int32))), .val (.int (if (q5 &&& (2 : Int32)) = (0 : Int32) then (0 : Int32) else (1 : Int32))), .unset, .unset, .unset, .unset, .unset, .unset, .unset, .unset, .unset] [(.int (1 : Int32))])) t
      refine XS.goto X0.here hx rfl (pc0 := 57) (pc' := 61) rfl (hb hby at_57) (by decide) (by decide) ?_
      show Steps p.tables e below (s₁.setTop (mkF m 61 #[.val (.long q0), .second, .val (.int q1), .val (.long q2), .second, .val (.int q3), .val (.long q4), .second, .val (.int q5), .val (.int (q1 &&& (2147483647 : Int32))), .val (.int (q3 &&& (2147483647 : Int32))), .val (.long (q4 &&& (9223372036854775807 : Int64))), .second, .val (.int (if (q5 &&& (1 : Int32)) = (0 : Int32) then (0 : Int32) else (1 : Int32))), .val (.int (if (q5 &&& (2 : Int32)) = (0 : Int32) then (0 : Int32) else (1 : Int32))), .unset, .unset, .unset, .unset, .unset, .unset, .unset, .unset, .unset] [(.int (1 : Int32))])) t
      exact k
  show OEnds p e below s _ _ _ (s₁.setTop (mkF m 61 #[.val (.long q0), .second, .val (.int q1), .val (.long q2), .second, .val (.int q3), .val (.long q4), .second, .val (.int q5), .val (.int (q1 &&& (2147483647 : Int32))), .val (.int (q3 &&& (2147483647 : Int32))), .val (.long (q4 &&& (9223372036854775807 : Int64))), .second, .val (.int (if (q5 &&& (1 : Int32)) = (0 : Int32) then (0 : Int32) else (1 : Int32))), .val (.int (if (q5 &&& (2 : Int32)) = (0 : Int32) then (0 : Int32) else (1 : Int32))), .unset, .unset, .unset, .unset, .unset, .unset, .unset, .unset, .unset] [(.int (if (q5 &&& (4 : Int32)) = (0 : Int32) then (0 : Int32) else (1 : Int32)))]))
  refine own_by (fun _ k => XS.istore X0.here hx rfl (hb hby at_61) rfl (l' := #[.val (.long q0), .second, .val (.int q1), .val (.long q2), .second, .val (.int q3), .val (.long q4), .second, .val (.int q5), .val (.int (q1 &&& (2147483647 : Int32))), .val (.int (q3 &&& (2147483647 : Int32))), .val (.long (q4 &&& (9223372036854775807 : Int64))), .second, .val (.int (if (q5 &&& (1 : Int32)) = (0 : Int32) then (0 : Int32) else (1 : Int32))), .val (.int (if (q5 &&& (2 : Int32)) = (0 : Int32) then (0 : Int32) else (1 : Int32))), .val (.int (if (q5 &&& (4 : Int32)) = (0 : Int32) then (0 : Int32) else (1 : Int32))), .unset, .unset, .unset, .unset, .unset, .unset, .unset, .unset]) rfl k) ?_
  show OEnds p e below s _ _ _ (s₁.setTop (mkF m 63 #[.val (.long q0), .second, .val (.int q1), .val (.long q2), .second, .val (.int q3), .val (.long q4), .second, .val (.int q5), .val (.int (q1 &&& (2147483647 : Int32))), .val (.int (q3 &&& (2147483647 : Int32))), .val (.long (q4 &&& (9223372036854775807 : Int64))), .second, .val (.int (if (q5 &&& (1 : Int32)) = (0 : Int32) then (0 : Int32) else (1 : Int32))), .val (.int (if (q5 &&& (2 : Int32)) = (0 : Int32) then (0 : Int32) else (1 : Int32))), .val (.int (if (q5 &&& (4 : Int32)) = (0 : Int32) then (0 : Int32) else (1 : Int32))), .unset, .unset, .unset, .unset, .unset, .unset, .unset, .unset] []))
  refine own_by (fun _ k => XS.iload X0.here hx rfl (hb hby at_63) rfl k) ?_
  show OEnds p e below s _ _ _ (s₁.setTop (mkF m 65 #[.val (.long q0), .second, .val (.int q1), .val (.long q2), .second, .val (.int q3), .val (.long q4), .second, .val (.int q5), .val (.int (q1 &&& (2147483647 : Int32))), .val (.int (q3 &&& (2147483647 : Int32))), .val (.long (q4 &&& (9223372036854775807 : Int64))), .second, .val (.int (if (q5 &&& (1 : Int32)) = (0 : Int32) then (0 : Int32) else (1 : Int32))), .val (.int (if (q5 &&& (2 : Int32)) = (0 : Int32) then (0 : Int32) else (1 : Int32))), .val (.int (if (q5 &&& (4 : Int32)) = (0 : Int32) then (0 : Int32) else (1 : Int32))), .unset, .unset, .unset, .unset, .unset, .unset, .unset, .unset] [(.int q5)]))
  refine own_by (fun _ k => XS.bipush X0.here hx rfl (hb hby at_65) k) ?_
  show OEnds p e below s _ _ _ (s₁.setTop (mkF m 67 #[.val (.long q0), .second, .val (.int q1), .val (.long q2), .second, .val (.int q3), .val (.long q4), .second, .val (.int q5), .val (.int (q1 &&& (2147483647 : Int32))), .val (.int (q3 &&& (2147483647 : Int32))), .val (.long (q4 &&& (9223372036854775807 : Int64))), .second, .val (.int (if (q5 &&& (1 : Int32)) = (0 : Int32) then (0 : Int32) else (1 : Int32))), .val (.int (if (q5 &&& (2 : Int32)) = (0 : Int32) then (0 : Int32) else (1 : Int32))), .val (.int (if (q5 &&& (4 : Int32)) = (0 : Int32) then (0 : Int32) else (1 : Int32))), .unset, .unset, .unset, .unset, .unset, .unset, .unset, .unset] [(.int (8 : Int32)), (.int q5)]))
  refine own_by (fun _ k => XS.iand X0.here hx rfl (hb hby at_67) rfl k) ?_
  show OEnds p e below s _ _ _ (s₁.setTop (mkF m 68 #[.val (.long q0), .second, .val (.int q1), .val (.long q2), .second, .val (.int q3), .val (.long q4), .second, .val (.int q5), .val (.int (q1 &&& (2147483647 : Int32))), .val (.int (q3 &&& (2147483647 : Int32))), .val (.long (q4 &&& (9223372036854775807 : Int64))), .second, .val (.int (if (q5 &&& (1 : Int32)) = (0 : Int32) then (0 : Int32) else (1 : Int32))), .val (.int (if (q5 &&& (2 : Int32)) = (0 : Int32) then (0 : Int32) else (1 : Int32))), .val (.int (if (q5 &&& (4 : Int32)) = (0 : Int32) then (0 : Int32) else (1 : Int32))), .unset, .unset, .unset, .unset, .unset, .unset, .unset, .unset] [(.int (q5 &&& (8 : Int32)))]))
  refine own_by (S' := s₁.setTop (mkF m 76 #[.val (.long q0), .second, .val (.int q1), .val (.long q2), .second, .val (.int q3), .val (.long q4), .second, .val (.int q5), .val (.int (q1 &&& (2147483647 : Int32))), .val (.int (q3 &&& (2147483647 : Int32))), .val (.long (q4 &&& (9223372036854775807 : Int64))), .second, .val (.int (if (q5 &&& (1 : Int32)) = (0 : Int32) then (0 : Int32) else (1 : Int32))), .val (.int (if (q5 &&& (2 : Int32)) = (0 : Int32) then (0 : Int32) else (1 : Int32))), .val (.int (if (q5 &&& (4 : Int32)) = (0 : Int32) then (0 : Int32) else (1 : Int32))), .unset, .unset, .unset, .unset, .unset, .unset, .unset, .unset] [(.int (if (q5 &&& (8 : Int32)) = (0 : Int32) then (0 : Int32) else (1 : Int32)))])) (fun t k => ?_) ?_
  · by_cases hc68_4 : (q5 &&& (8 : Int32)) = (0 : Int32)
    · rw [if_pos hc68_4] at k
      refine XS.ifYes X0.here hx rfl (pc0 := 68) (pc' := 75) rfl (hb hby at_68) rfl ((if0 _ _).trans (teq hc68_4).1) (by decide) (by decide) ?_
      show Steps p.tables e below (s₁.setTop (mkF m 75 #[.val (.long q0), .second, .val (.int q1), .val (.long q2), .second, .val (.int q3), .val (.long q4), .second, .val (.int q5), .val (.int (q1 &&& (2147483647 : Int32))), .val (.int (q3 &&& (2147483647 : Int32))), .val (.long (q4 &&& (9223372036854775807 : Int64))), .second, .val (.int (if (q5 &&& (1 : Int32)) = (0 : Int32) then (0 : Int32) else (1 : Int32))), .val (.int (if (q5 &&& (2 : Int32)) = (0 : Int32) then (0 : Int32) else (1 : Int32))), .val (.int (if (q5 &&& (4 : Int32)) = (0 : Int32) then (0 : Int32) else (1 : Int32))), .unset, .unset, .unset, .unset, .unset, .unset, .unset, .unset] [])) t
      refine XS.iconst X0.here hx rfl (hb hby at_75) ?_
      show Steps p.tables e below (s₁.setTop (mkF m 76 #[.val (.long q0), .second, .val (.int q1), .val (.long q2), .second, .val (.int q3), .val (.long q4), .second, .val (.int q5), .val (.int (q1 &&& (2147483647 : Int32))), .val (.int (q3 &&& (2147483647 : Int32))), .val (.long (q4 &&& (9223372036854775807 : Int64))), .second, .val (.int (if (q5 &&& (1 : Int32)) = (0 : Int32) then (0 : Int32) else (1 : Int32))), .val (.int (if (q5 &&& (2 : Int32)) = (0 : Int32) then (0 : Int32) else (1 : Int32))), .val (.int (if (q5 &&& (4 : Int32)) = (0 : Int32) then (0 : Int32) else (1 : Int32))), .unset, .unset, .unset, .unset, .unset, .unset, .unset, .unset] [(.int (0 : Int32))])) t
      exact k
    · rw [if_neg hc68_4] at k
      refine XS.ifNo X0.here hx rfl (hb hby at_68) rfl ((if0 _ _).trans (feq hc68_4).1) ?_
      show Steps p.tables e below (s₁.setTop (mkF m 71 #[.val (.long q0), .second, .val (.int q1), .val (.long q2), .second, .val (.int q3), .val (.long q4), .second, .val (.int q5), .val (.int (q1 &&& (2147483647 : Int32))), .val (.int (q3 &&& (2147483647 : Int32))), .val (.long (q4 &&& (9223372036854775807 : Int64))), .second, .val (.int (if (q5 &&& (1 : Int32)) = (0 : Int32) then (0 : Int32) else (1 : Int32))), .val (.int (if (q5 &&& (2 : Int32)) = (0 : Int32) then (0 : Int32) else (1 : Int32))), .val (.int (if (q5 &&& (4 : Int32)) = (0 : Int32) then (0 : Int32) else (1 : Int32))), .unset, .unset, .unset, .unset, .unset, .unset, .unset, .unset] [])) t
      refine XS.iconst X0.here hx rfl (hb hby at_71) ?_
      show Steps p.tables e below (s₁.setTop (mkF m 72 #[.val (.long q0), .second, .val (.int q1), .val (.long q2), .second, .val (.int q3), .val (.long q4), .second, .val (.int q5), .val (.int (q1 &&& (2147483647 : Int32))), .val (.int (q3 &&& (2147483647 : Int32))), .val (.long (q4 &&& (9223372036854775807 : Int64))), .second, .val (.int (if (q5 &&& (1 : Int32)) = (0 : Int32) then (0 : Int32) else (1 : Int32))), .val (.int (if (q5 &&& (2 : Int32)) = (0 : Int32) then (0 : Int32) else (1 : Int32))), .val (.int (if (q5 &&& (4 : Int32)) = (0 : Int32) then (0 : Int32) else (1 : Int32))), .unset, .unset, .unset, .unset, .unset, .unset, .unset, .unset] [(.int (1 : Int32))])) t
      refine XS.goto X0.here hx rfl (pc0 := 72) (pc' := 76) rfl (hb hby at_72) (by decide) (by decide) ?_
      show Steps p.tables e below (s₁.setTop (mkF m 76 #[.val (.long q0), .second, .val (.int q1), .val (.long q2), .second, .val (.int q3), .val (.long q4), .second, .val (.int q5), .val (.int (q1 &&& (2147483647 : Int32))), .val (.int (q3 &&& (2147483647 : Int32))), .val (.long (q4 &&& (9223372036854775807 : Int64))), .second, .val (.int (if (q5 &&& (1 : Int32)) = (0 : Int32) then (0 : Int32) else (1 : Int32))), .val (.int (if (q5 &&& (2 : Int32)) = (0 : Int32) then (0 : Int32) else (1 : Int32))), .val (.int (if (q5 &&& (4 : Int32)) = (0 : Int32) then (0 : Int32) else (1 : Int32))), .unset, .unset, .unset, .unset, .unset, .unset, .unset, .unset] [(.int (1 : Int32))])) t
      exact k
  show OEnds p e below s _ _ _ (s₁.setTop (mkF m 76 #[.val (.long q0), .second, .val (.int q1), .val (.long q2), .second, .val (.int q3), .val (.long q4), .second, .val (.int q5), .val (.int (q1 &&& (2147483647 : Int32))), .val (.int (q3 &&& (2147483647 : Int32))), .val (.long (q4 &&& (9223372036854775807 : Int64))), .second, .val (.int (if (q5 &&& (1 : Int32)) = (0 : Int32) then (0 : Int32) else (1 : Int32))), .val (.int (if (q5 &&& (2 : Int32)) = (0 : Int32) then (0 : Int32) else (1 : Int32))), .val (.int (if (q5 &&& (4 : Int32)) = (0 : Int32) then (0 : Int32) else (1 : Int32))), .unset, .unset, .unset, .unset, .unset, .unset, .unset, .unset] [(.int (if (q5 &&& (8 : Int32)) = (0 : Int32) then (0 : Int32) else (1 : Int32)))]))
  refine own_by (fun _ k => XS.istore X0.here hx rfl (hb hby at_76) rfl (l' := #[.val (.long q0), .second, .val (.int q1), .val (.long q2), .second, .val (.int q3), .val (.long q4), .second, .val (.int q5), .val (.int (q1 &&& (2147483647 : Int32))), .val (.int (q3 &&& (2147483647 : Int32))), .val (.long (q4 &&& (9223372036854775807 : Int64))), .second, .val (.int (if (q5 &&& (1 : Int32)) = (0 : Int32) then (0 : Int32) else (1 : Int32))), .val (.int (if (q5 &&& (2 : Int32)) = (0 : Int32) then (0 : Int32) else (1 : Int32))), .val (.int (if (q5 &&& (4 : Int32)) = (0 : Int32) then (0 : Int32) else (1 : Int32))), .val (.int (if (q5 &&& (8 : Int32)) = (0 : Int32) then (0 : Int32) else (1 : Int32))), .unset, .unset, .unset, .unset, .unset, .unset, .unset]) rfl k) ?_
  show OEnds p e below s _ _ _ (s₁.setTop (mkF m 78 #[.val (.long q0), .second, .val (.int q1), .val (.long q2), .second, .val (.int q3), .val (.long q4), .second, .val (.int q5), .val (.int (q1 &&& (2147483647 : Int32))), .val (.int (q3 &&& (2147483647 : Int32))), .val (.long (q4 &&& (9223372036854775807 : Int64))), .second, .val (.int (if (q5 &&& (1 : Int32)) = (0 : Int32) then (0 : Int32) else (1 : Int32))), .val (.int (if (q5 &&& (2 : Int32)) = (0 : Int32) then (0 : Int32) else (1 : Int32))), .val (.int (if (q5 &&& (4 : Int32)) = (0 : Int32) then (0 : Int32) else (1 : Int32))), .val (.int (if (q5 &&& (8 : Int32)) = (0 : Int32) then (0 : Int32) else (1 : Int32))), .unset, .unset, .unset, .unset, .unset, .unset, .unset] []))
  have hla := own_nn32 q1
  generalize (q1 &&& (2147483647 : Int32)) = la at hla ⊢
  have hlb := own_nn32 q3
  generalize (q3 &&& (2147483647 : Int32)) = lb at hlb ⊢
  have hoff := own_nn64 q4
  generalize (q4 &&& (9223372036854775807 : Int64)) = off at hoff ⊢
  generalize (if (q5 &&& (1 : Int32)) = (0 : Int32) then (0 : Int32) else (1 : Int32)) = oz
  generalize (if (q5 &&& (2 : Int32)) = (0 : Int32) then (0 : Int32) else (1 : Int32)) = hbv
  generalize (if (q5 &&& (4 : Int32)) = (0 : Int32) then (0 : Int32) else (1 : Int32)) = hzv
  generalize (if (q5 &&& (8 : Int32)) = (0 : Int32) then (0 : Int32) else (1 : Int32)) = oav
  show OEnds p e below s _ _ _ (s₁.setTop (mkF m 78 #[.val (.long q0), .second, .val (.int q1), .val (.long q2), .second, .val (.int q3), .val (.long q4), .second, .val (.int q5), .val (.int la), .val (.int lb), .val (.long off), .second, .val (.int oz), .val (.int hbv), .val (.int hzv), .val (.int oav), .unset, .unset, .unset, .unset, .unset, .unset, .unset] []))
  obtain ⟨T5, h5, X5, e5, E5, A5, D5, -, st5⟩ := newO X0 hx hZ hown (hw _ (List.mem_of_getElem? (i := 2) rfl)) (hw _ (List.mem_of_getElem? (i := 3) rfl)) (hw _ (List.mem_of_getElem? (i := 4) rfl)) e0 (g := (mkF m 78 #[.val (.long q0), .second, .val (.int q1), .val (.long q2), .second, .val (.int q3), .val (.long q4), .second, .val (.int q5), .val (.int la), .val (.int lb), .val (.long off), .second, .val (.int oz), .val (.int hbv), .val (.int hzv), .val (.int oav), .unset, .unset, .unset, .unset, .unset, .unset, .unset] [])) rfl (hb hby at_78) (by decide) (by decide)
  obtain ⟨nb5, g5⟩ : ∃ z, z = h0.size := ⟨_, rfl⟩
  rw [← g5] at A5 D5 st5
  refine own_by (st5) ?_
  have g_nb5 : n0 ≤ nb5 := Nat.le_trans Z0 (Nat.le_of_eq g5.symm)
  have Z5 : n0 ≤ h5.size := Nat.le_trans Z0 E5.1
  have O5 : Obj Z h5 nb5 "com/example/fourfold/fourfold/xdr/FragmentMap" sch_fm [.null, (.long (0 : Int64)), (.int (0 : Int32)), (.long (0 : Int64))] := Obj.new (so_sch_fm hw) A5 D5 [(.array .byte), .long, .int, .long] (by decide)
  show OEnds p e below s _ _ _ (T5.setTop (mkF m 81 #[.val (.long q0), .second, .val (.int q1), .val (.long q2), .second, .val (.int q3), .val (.long q4), .second, .val (.int q5), .val (.int la), .val (.int lb), .val (.long off), .second, .val (.int oz), .val (.int hbv), .val (.int hzv), .val (.int oav), .unset, .unset, .unset, .unset, .unset, .unset, .unset] [(.ref nb5)]))
  refine own_by (fun _ k => XS.dup X5.here hx rfl (hb hby at_81) rfl rfl k) ?_
  show OEnds p e below s _ _ _ (T5.setTop (mkF m 82 #[.val (.long q0), .second, .val (.int q1), .val (.long q2), .second, .val (.int q3), .val (.long q4), .second, .val (.int q5), .val (.int la), .val (.int lb), .val (.long off), .second, .val (.int oz), .val (.int hbv), .val (.int hzv), .val (.int oav), .unset, .unset, .unset, .unset, .unset, .unset, .unset] [(.ref nb5), (.ref nb5)]))
  obtain ⟨v6, T6, L6, h6, X6, e6, hQ6, st6⟩ := own_callI X5 hx hZ (y := (⟨"com/example/fourfold/fourfold/xdr/FragmentMap", "<init>", "()V"⟩ : MethodName)) rfl hown (hw _ (List.mem_of_getElem? (i := 5) rfl)) (hw _ (List.mem_of_getElem? (i := 6) rfl)) (hw _ (List.mem_of_getElem? (i := 7) rfl)) (hw _ (List.mem_of_getElem? (i := 4) rfl)) (by decide) (rm_init l Z a0 hw [] nb5 h5 n0 Z5 O5 g_nb5) e5 (g := (mkF m 82 #[.val (.long q0), .second, .val (.int q1), .val (.long q2), .second, .val (.int q3), .val (.long q4), .second, .val (.int q5), .val (.int la), .val (.int lb), .val (.long off), .second, .val (.int oz), .val (.int hbv), .val (.int hzv), .val (.int oav), .unset, .unset, .unset, .unset, .unset, .unset, .unset] [(.ref nb5), (.ref nb5)])) rfl (by rw [hml]; rfl) (argsL := []) (rest := [(.ref nb5)]) (lenOf pd_prV rfl) rfl (W := 1) (by show 2 * 0 + _ ≤ _; exact Nat.le_of_eq rfl) (hb hby at_82) (by decide) (by decide) (by decide) (by decide)
  obtain ⟨rfl, Nq6, Kq6, bf, -, gbf, O6, F6⟩ := hQ6
  have N6 := Fr.app N0 Nq6
  have Z6 : n0 ≤ h6.size := Nat.le_trans Z5 Kq6.1
  refine own_tr st6 ?_
  show OEnds p e below s _ _ _ (T6.setTop (mkF m 85 #[.val (.long q0), .second, .val (.int q1), .val (.long q2), .second, .val (.int q3), .val (.long q4), .second, .val (.int q5), .val (.int la), .val (.int lb), .val (.long off), .second, .val (.int oz), .val (.int hbv), .val (.int hzv), .val (.int oav), .unset, .unset, .unset, .unset, .unset, .unset, .unset] [(.ref nb5)]))
  refine own_by (fun _ k => XS.astore X6.here hx rfl (hb hby at_85) rfl rfl (l' := #[.val (.long q0), .second, .val (.int q1), .val (.long q2), .second, .val (.int q3), .val (.long q4), .second, .val (.int q5), .val (.int la), .val (.int lb), .val (.long off), .second, .val (.int oz), .val (.int hbv), .val (.int hzv), .val (.int oav), .val (.ref nb5), .unset, .unset, .unset, .unset, .unset, .unset]) rfl k) ?_
  show OEnds p e below s _ _ _ (T6.setTop (mkF m 87 #[.val (.long q0), .second, .val (.int q1), .val (.long q2), .second, .val (.int q3), .val (.long q4), .second, .val (.int q5), .val (.int la), .val (.int lb), .val (.long off), .second, .val (.int oz), .val (.int hbv), .val (.int hzv), .val (.int oav), .val (.ref nb5), .unset, .unset, .unset, .unset, .unset, .unset] []))
  refine own_by (fun _ k => XS.aload X6.here hx rfl (hb hby at_87) rfl rfl k) ?_
  show OEnds p e below s _ _ _ (T6.setTop (mkF m 89 #[.val (.long q0), .second, .val (.int q1), .val (.long q2), .second, .val (.int q3), .val (.long q4), .second, .val (.int q5), .val (.int la), .val (.int lb), .val (.long off), .second, .val (.int oz), .val (.int hbv), .val (.int hzv), .val (.int oav), .val (.ref nb5), .unset, .unset, .unset, .unset, .unset, .unset] [(.ref nb5)]))
  refine own_by (fun _ k => XS.lloadN X6.here hx rfl (hb hby at_89) rfl k) ?_
  show OEnds p e below s _ _ _ (T6.setTop (mkF m 90 #[.val (.long q0), .second, .val (.int q1), .val (.long q2), .second, .val (.int q3), .val (.long q4), .second, .val (.int q5), .val (.int la), .val (.int lb), .val (.long off), .second, .val (.int oz), .val (.int hbv), .val (.int hzv), .val (.int oav), .val (.ref nb5), .unset, .unset, .unset, .unset, .unset, .unset] [(.long q0), (.ref nb5)]))
  obtain ⟨v7, T7, L7, h7, X7, e7, hQ7, st7⟩ := own_callV X6 hx hZ (y := (⟨"com/example/fourfold/fourfold/xdr/FragmentMap", "begin", "(J)V"⟩ : MethodName)) hown (hw _ (List.mem_of_getElem? (i := 14) rfl)) (hw _ (List.mem_of_getElem? (i := 15) rfl)) (hw _ (List.mem_of_getElem? (i := 17) rfl)) (hw _ (List.mem_of_getElem? (i := 16) rfl)) (hw _ (List.mem_of_getElem? (i := 18) rfl)) (hw _ (List.mem_of_getElem? (i := 4) rfl)) (by decide) O6.exa (rm_begin l Z a0 hw [] nb5 q0 bf (0 : Int64) (0 : Int32) (0 : Int64) h6 n0 Z6 O6 g_nb5) e6 (g := (mkF m 90 #[.val (.long q0), .second, .val (.int q1), .val (.long q2), .second, .val (.int q3), .val (.long q4), .second, .val (.int q5), .val (.int la), .val (.int lb), .val (.long off), .second, .val (.int oz), .val (.int hbv), .val (.int hzv), .val (.int oav), .val (.ref nb5), .unset, .unset, .unset, .unset, .unset, .unset] [(.long q0), (.ref nb5)])) rfl (by rw [hml]; rfl) (argsL := [(.long q0)]) (rest := []) (lenOf pd_pJrV rfl) rfl (W := 0) (by show 2 * 0 + _ ≤ _; exact Nat.le_of_eq rfl) (hb hby at_90) (by decide) (by decide) (by decide) (by decide)
  obtain ⟨rfl, Nq7, Kq7, O7⟩ := hQ7
  have N7 := Fr.app N6 Nq7
  have Z7 : n0 ≤ h7.size := Nat.le_trans Z6 Kq7.1
  refine own_tr st7 ?_
  show OEnds p e below s _ _ _ (T7.setTop (mkF m 93 #[.val (.long q0), .second, .val (.int q1), .val (.long q2), .second, .val (.int q3), .val (.long q4), .second, .val (.int q5), .val (.int la), .val (.int lb), .val (.long off), .second, .val (.int oz), .val (.int hbv), .val (.int hzv), .val (.int oav), .val (.ref nb5), .unset, .unset, .unset, .unset, .unset, .unset] []))
  have bl116 : ∀ (T : State) (lo : List Loc) (cz : Int32) (ce : Int64) (cf : Nat → Int32) (h_bl116 : Heap) (Zz_bl116 : n0 ≤ h_bl116.size) (X_bl116 : Stand p l e room_1 s m #[(.long q0), (.int q1), (.long q2), (.int q3), (.long q4), (.int q5)] below meth c T lo 2 20) (e_bl116 : T.heap = h_bl116) (N_bl116 : Fr n0 lo) (Ob_bl116_nb5 : Obj Z h_bl116 nb5 "com/example/fourfold/fourfold/xdr/FragmentMap" sch_fm [(.ref bf), (.long q0), (.int cz), (.long ce)]) (Fa_bl116_bf : FA Z h_bl116 bf .byte 16 (fun i => .int (cf i))), OEnds p e below s (QL n0) room_1.cells room_1.slots (T.setTop (mkF m 116 #[.val (.long q0), .second, .val (.int q1), .val (.long q2), .second, .val (.int q3), .val (.long q4), .second, .val (.int q5), .val (.int la), .val (.int lb), .val (.long off), .second, .val (.int oz), .val (.int hbv), .val (.int hzv), .val (.int oav), .val (.ref nb5), .unset, .unset, .unset, .unset, .unset, .unset] [])) := by
    intro T lo cz ce cf h_bl116 Zz_bl116 X_bl116 e_bl116 N_bl116 Ob_bl116_nb5 Fa_bl116_bf
    show OEnds p e below s _ _ _ (T.setTop (mkF m 116 #[.val (.long q0), .second, .val (.int q1), .val (.long q2), .second, .val (.int q3), .val (.long q4), .second, .val (.int q5), .val (.int la), .val (.int lb), .val (.long off), .second, .val (.int oz), .val (.int hbv), .val (.int hzv), .val (.int oav), .val (.ref nb5), .unset, .unset, .unset, .unset, .unset, .unset] []))
    refine own_by (fun _ k => XS.aload X_bl116.here hx rfl (hb hby at_116) rfl rfl k) ?_
    show OEnds p e below s _ _ _ (T.setTop (mkF m 118 #[.val (.long q0), .second, .val (.int q1), .val (.long q2), .second, .val (.int q3), .val (.long q4), .second, .val (.int q5), .val (.int la), .val (.int lb), .val (.long off), .second, .val (.int oz), .val (.int hbv), .val (.int hzv), .val (.int oav), .val (.ref nb5), .unset, .unset, .unset, .unset, .unset, .unset] [(.ref nb5)]))
    refine own_by (fun _ k => XS.lloadN X_bl116.here hx rfl (hb hby at_118) rfl k) ?_
    show OEnds p e below s _ _ _ (T.setTop (mkF m 119 #[.val (.long q0), .second, .val (.int q1), .val (.long q2), .second, .val (.int q3), .val (.long q4), .second, .val (.int q5), .val (.int la), .val (.int lb), .val (.long off), .second, .val (.int oz), .val (.int hbv), .val (.int hzv), .val (.int oav), .val (.ref nb5), .unset, .unset, .unset, .unset, .unset, .unset] [(.long q2), (.ref nb5)]))
    obtain ⟨v8, T8, L8, h8, X8, e8, hQ8, st8⟩ := own_callV X_bl116 hx hZ (y := (⟨"com/example/fourfold/fourfold/xdr/FragmentMap", "begin", "(J)V"⟩ : MethodName)) hown (hw _ (List.mem_of_getElem? (i := 14) rfl)) (hw _ (List.mem_of_getElem? (i := 15) rfl)) (hw _ (List.mem_of_getElem? (i := 17) rfl)) (hw _ (List.mem_of_getElem? (i := 16) rfl)) (hw _ (List.mem_of_getElem? (i := 18) rfl)) (hw _ (List.mem_of_getElem? (i := 4) rfl)) (by decide) Ob_bl116_nb5.exa (rm_begin l Z a0 hw [] nb5 q2 bf q0 cz ce h_bl116 n0 Zz_bl116 Ob_bl116_nb5 g_nb5) e_bl116 (g := (mkF m 119 #[.val (.long q0), .second, .val (.int q1), .val (.long q2), .second, .val (.int q3), .val (.long q4), .second, .val (.int q5), .val (.int la), .val (.int lb), .val (.long off), .second, .val (.int oz), .val (.int hbv), .val (.int hzv), .val (.int oav), .val (.ref nb5), .unset, .unset, .unset, .unset, .unset, .unset] [(.long q2), (.ref nb5)])) rfl (by rw [hml]; rfl) (argsL := [(.long q2)]) (rest := []) (lenOf pd_pJrV rfl) rfl (W := 0) (by show 2 * 0 + _ ≤ _; exact Nat.le_of_eq rfl) (hb hby at_119) (by decide) (by decide) (by decide) (by decide)
    obtain ⟨rfl, Nq8, Kq8, O8⟩ := hQ8
    have N8 := Fr.app N_bl116 Nq8
    have Z8 : n0 ≤ h8.size := Nat.le_trans Zz_bl116 Kq8.1
    refine own_tr st8 ?_
    show OEnds p e below s _ _ _ (T8.setTop (mkF m 122 #[.val (.long q0), .second, .val (.int q1), .val (.long q2), .second, .val (.int q3), .val (.long q4), .second, .val (.int q5), .val (.int la), .val (.int lb), .val (.long off), .second, .val (.int oz), .val (.int hbv), .val (.int hzv), .val (.int oav), .val (.ref nb5), .unset, .unset, .unset, .unset, .unset, .unset] []))
    refine own_by (fun _ k => XS.iload X8.here hx rfl (hb hby at_122) rfl k) ?_
    show OEnds p e below s _ _ _ (T8.setTop (mkF m 124 #[.val (.long q0), .second, .val (.int q1), .val (.long q2), .second, .val (.int q3), .val (.long q4), .second, .val (.int q5), .val (.int la), .val (.int lb), .val (.long off), .second, .val (.int oz), .val (.int hbv), .val (.int hzv), .val (.int oav), .val (.ref nb5), .unset, .unset, .unset, .unset, .unset, .unset] [(.int hbv)]))
    by_cases hc124_9 : hbv = (0 : Int32)
    · refine own_by (fun _ k => XS.ifYes X8.here hx rfl (pc0 := 124) (pc' := 134) rfl (hb hby at_124) rfl ((if0 _ _).trans (teq hc124_9).1) (by decide) (by decide) k) ?_
      show OEnds p e below s _ _ _ (T8.setTop (mkF m 134 #[.val (.long q0), .second, .val (.int q1), .val (.long q2), .second, .val (.int q3), .val (.long q4), .second, .val (.int q5), .val (.int la), .val (.int lb), .val (.long off), .second, .val (.int oz), .val (.int hbv), .val (.int hzv), .val (.int oav), .val (.ref nb5), .unset, .unset, .unset, .unset, .unset, .unset] []))
      refine own_by (fun _ k => XS.iload X8.here hx rfl (hb hby at_134) rfl k) ?_
      show OEnds p e below s _ _ _ (T8.setTop (mkF m 136 #[.val (.long q0), .second, .val (.int q1), .val (.long q2), .second, .val (.int q3), .val (.long q4), .second, .val (.int q5), .val (.int la), .val (.int lb), .val (.long off), .second, .val (.int oz), .val (.int hbv), .val (.int hzv), .val (.int oav), .val (.ref nb5), .unset, .unset, .unset, .unset, .unset, .unset] [(.int hzv)]))
      by_cases hc136_10 : hzv = (0 : Int32)
      · refine own_by (fun _ k => XS.ifYes X8.here hx rfl (pc0 := 136) (pc' := 145) rfl (hb hby at_136) rfl ((if0 _ _).trans (teq hc136_10).1) (by decide) (by decide) k) ?_
        show OEnds p e below s _ _ _ (T8.setTop (mkF m 145 #[.val (.long q0), .second, .val (.int q1), .val (.long q2), .second, .val (.int q3), .val (.long q4), .second, .val (.int q5), .val (.int la), .val (.int lb), .val (.long off), .second, .val (.int oz), .val (.int hbv), .val (.int hzv), .val (.int oav), .val (.ref nb5), .unset, .unset, .unset, .unset, .unset, .unset] []))
        refine own_by (fun _ k => XS.aload X8.here hx rfl (hb hby at_145) rfl rfl k) ?_
        show OEnds p e below s _ _ _ (T8.setTop (mkF m 147 #[.val (.long q0), .second, .val (.int q1), .val (.long q2), .second, .val (.int q3), .val (.long q4), .second, .val (.int q5), .val (.int la), .val (.int lb), .val (.long off), .second, .val (.int oz), .val (.int hbv), .val (.int hzv), .val (.int oav), .val (.ref nb5), .unset, .unset, .unset, .unset, .unset, .unset] [(.ref nb5)]))
        refine own_by (fun _ k => XS.lload X8.here hx rfl (hb hby at_147) rfl k) ?_
        show OEnds p e below s _ _ _ (T8.setTop (mkF m 149 #[.val (.long q0), .second, .val (.int q1), .val (.long q2), .second, .val (.int q3), .val (.long q4), .second, .val (.int q5), .val (.int la), .val (.int lb), .val (.long off), .second, .val (.int oz), .val (.int hbv), .val (.int hzv), .val (.int oav), .val (.ref nb5), .unset, .unset, .unset, .unset, .unset, .unset] [(.long off), (.ref nb5)]))
        have F12 : FA Z h8 bf .byte 16 (fun i => .int (cf i)) := (Fa_bl116_bf.keep Kq8 (ninS (Ne.symm (Ob_bl116_nb5.ne_fa (hw _ (List.mem_of_getElem? (i := 3) rfl)) Fa_bl116_bf)) nin0))
        obtain ⟨T11, X11, e11, st11⟩ := own_callR X8 hx hZ (y := (⟨"com/example/fourfold/fourfold/xdr/FragmentMap", "inStream", "(J)J"⟩ : MethodName)) hown (hw _ (List.mem_of_getElem? (i := 30) rfl)) (hw _ (List.mem_of_getElem? (i := 31) rfl)) (hw _ (List.mem_of_getElem? (i := 33) rfl)) (hw _ (List.mem_of_getElem? (i := 32) rfl)) (hw _ (List.mem_of_getElem? (i := 34) rfl)) (hw _ (List.mem_of_getElem? (i := 4) rfl)) (by decide) O8.exa (rm_inStream l Z a0 hw [] nb5 off bf (begin_start q2) begin_size begin_empty cf 16 0 [] h8 n0 Z8 O8 F12 (by decide) rfl (by decide) (by decide)) e8 (g := (mkF m 149 #[.val (.long q0), .second, .val (.int q1), .val (.long q2), .second, .val (.int q3), .val (.long q4), .second, .val (.int q5), .val (.int la), .val (.int lb), .val (.long off), .second, .val (.int oz), .val (.int hbv), .val (.int hzv), .val (.int oav), .val (.ref nb5), .unset, .unset, .unset, .unset, .unset, .unset] [(.long off), (.ref nb5)])) rfl (by rw [hml]; rfl) (argsL := [(.long off)]) (rest := []) (lenOf pd_pJrJ rfl) rfl (W := 0) (by show 2 * 0 + _ ≤ _; exact Nat.le_of_eq rfl) (hb hby at_149) (by decide) (by decide) (by decide) (by decide)
        refine own_by (st11) ?_
        show OEnds p e below s _ _ _ (T11.setTop (mkF m 152 #[.val (.long q0), .second, .val (.int q1), .val (.long q2), .second, .val (.int q3), .val (.long q4), .second, .val (.int q5), .val (.int la), .val (.int lb), .val (.long off), .second, .val (.int oz), .val (.int hbv), .val (.int hzv), .val (.int oav), .val (.ref nb5), .unset, .unset, .unset, .unset, .unset, .unset] [(.long (scanF [] (begin_start q2) (0 : Int64) off begin_empty))]))
        refine own_by (fun _ k => XS.lstore X11.here hx rfl (hb hby at_152) rfl (l' := #[.val (.long q0), .second, .val (.int q1), .val (.long q2), .second, .val (.int q3), .val (.long q4), .second, .val (.int q5), .val (.int la), .val (.int lb), .val (.long off), .second, .val (.int oz), .val (.int hbv), .val (.int hzv), .val (.int oav), .val (.ref nb5), .val (.long (scanF [] (begin_start q2) (0 : Int64) off begin_empty)), .second, .unset, .unset, .unset, .unset]) rfl k) ?_
        show OEnds p e below s _ _ _ (T11.setTop (mkF m 154 #[.val (.long q0), .second, .val (.int q1), .val (.long q2), .second, .val (.int q3), .val (.long q4), .second, .val (.int q5), .val (.int la), .val (.int lb), .val (.long off), .second, .val (.int oz), .val (.int hbv), .val (.int hzv), .val (.int oav), .val (.ref nb5), .val (.long (scanF [] (begin_start q2) (0 : Int64) off begin_empty)), .second, .unset, .unset, .unset, .unset] []))
        refine own_by (fun _ k => XS.lloadN X11.here hx rfl (hb hby at_154) rfl k) ?_
        show OEnds p e below s _ _ _ (T11.setTop (mkF m 155 #[.val (.long q0), .second, .val (.int q1), .val (.long q2), .second, .val (.int q3), .val (.long q4), .second, .val (.int q5), .val (.int la), .val (.int lb), .val (.long off), .second, .val (.int oz), .val (.int hbv), .val (.int hzv), .val (.int oav), .val (.ref nb5), .val (.long (scanF [] (begin_start q2) (0 : Int64) off begin_empty)), .second, .unset, .unset, .unset, .unset] [(.long q2)]))
        refine own_by (fun _ k => XS.lstore X11.here hx rfl (hb hby at_155) rfl (l' := #[.val (.long q0), .second, .val (.int q1), .val (.long q2), .second, .val (.int q3), .val (.long q4), .second, .val (.int q5), .val (.int la), .val (.int lb), .val (.long off), .second, .val (.int oz), .val (.int hbv), .val (.int hzv), .val (.int oav), .val (.ref nb5), .val (.long (scanF [] (begin_start q2) (0 : Int64) off begin_empty)), .second, .val (.long q2), .second, .unset, .unset]) rfl k) ?_
        show OEnds p e below s _ _ _ (T11.setTop (mkF m 157 #[.val (.long q0), .second, .val (.int q1), .val (.long q2), .second, .val (.int q3), .val (.long q4), .second, .val (.int q5), .val (.int la), .val (.int lb), .val (.long off), .second, .val (.int oz), .val (.int hbv), .val (.int hzv), .val (.int oav), .val (.ref nb5), .val (.long (scanF [] (begin_start q2) (0 : Int64) off begin_empty)), .second, .val (.long q2), .second, .unset, .unset] []))
        refine own_by (fun _ k => XS.lconst X11.here hx rfl (hb hby at_157) k) ?_
        show OEnds p e below s _ _ _ (T11.setTop (mkF m 158 #[.val (.long q0), .second, .val (.int q1), .val (.long q2), .second, .val (.int q3), .val (.long q4), .second, .val (.int q5), .val (.int la), .val (.int lb), .val (.long off), .second, .val (.int oz), .val (.int hbv), .val (.int hzv), .val (.int oav), .val (.ref nb5), .val (.long (scanF [] (begin_start q2) (0 : Int64) off begin_empty)), .second, .val (.long q2), .second, .unset, .unset] [(.long (0 : Int64))]))
        refine own_by (fun _ k => XS.lstore X11.here hx rfl (hb hby at_158) rfl (l' := #[.val (.long q0), .second, .val (.int q1), .val (.long q2), .second, .val (.int q3), .val (.long q4), .second, .val (.int q5), .val (.int la), .val (.int lb), .val (.long off), .second, .val (.int oz), .val (.int hbv), .val (.int hzv), .val (.int oav), .val (.ref nb5), .val (.long (scanF [] (begin_start q2) (0 : Int64) off begin_empty)), .second, .val (.long q2), .second, .val (.long (0 : Int64)), .second]) rfl k) ?_
        show OEnds p e below s _ _ _ (T11.setTop (mkF m 160 #[.val (.long q0), .second, .val (.int q1), .val (.long q2), .second, .val (.int q3), .val (.long q4), .second, .val (.int q5), .val (.int la), .val (.int lb), .val (.long off), .second, .val (.int oz), .val (.int hbv), .val (.int hzv), .val (.int oav), .val (.ref nb5), .val (.long (scanF [] (begin_start q2) (0 : Int64) off begin_empty)), .second, .val (.long q2), .second, .val (.long (0 : Int64)), .second] []))
        refine own_by (fun _ k => XS.iload X11.here hx rfl (hb hby at_160) rfl k) ?_
        show OEnds p e below s _ _ _ (T11.setTop (mkF m 162 #[.val (.long q0), .second, .val (.int q1), .val (.long q2), .second, .val (.int q3), .val (.long q4), .second, .val (.int q5), .val (.int la), .val (.int lb), .val (.long off), .second, .val (.int oz), .val (.int hbv), .val (.int hzv), .val (.int oav), .val (.ref nb5), .val (.long (scanF [] (begin_start q2) (0 : Int64) off begin_empty)), .second, .val (.long q2), .second, .val (.long (0 : Int64)), .second] [(.int hbv)]))
        refine own_by (fun _ k => XS.ifYes X11.here hx rfl (pc0 := 162) (pc' := 216) rfl (hb hby at_162) rfl ((if0 _ _).trans (teq hc124_9).1) (by decide) (by decide) k) ?_
        show OEnds p e below s _ _ _ (T11.setTop (mkF m 216 #[.val (.long q0), .second, .val (.int q1), .val (.long q2), .second, .val (.int q3), .val (.long q4), .second, .val (.int q5), .val (.int la), .val (.int lb), .val (.long off), .second, .val (.int oz), .val (.int hbv), .val (.int hzv), .val (.int oav), .val (.ref nb5), .val (.long (scanF [] (begin_start q2) (0 : Int64) off begin_empty)), .second, .val (.long q2), .second, .val (.long (0 : Int64)), .second] []))
        refine own_by (fun _ k => XS.iload X11.here hx rfl (hb hby at_216) rfl k) ?_
        show OEnds p e below s _ _ _ (T11.setTop (mkF m 218 #[.val (.long q0), .second, .val (.int q1), .val (.long q2), .second, .val (.int q3), .val (.long q4), .second, .val (.int q5), .val (.int la), .val (.int lb), .val (.long off), .second, .val (.int oz), .val (.int hbv), .val (.int hzv), .val (.int oav), .val (.ref nb5), .val (.long (scanF [] (begin_start q2) (0 : Int64) off begin_empty)), .second, .val (.long q2), .second, .val (.long (0 : Int64)), .second] [(.int hzv)]))
        refine own_by (fun _ k => XS.ifYes X11.here hx rfl (pc0 := 218) (pc' := 227) rfl (hb hby at_218) rfl ((if0 _ _).trans (teq hc136_10).1) (by decide) (by decide) k) ?_
        show OEnds p e below s _ _ _ (T11.setTop (mkF m 227 #[.val (.long q0), .second, .val (.int q1), .val (.long q2), .second, .val (.int q3), .val (.long q4), .second, .val (.int q5), .val (.int la), .val (.int lb), .val (.long off), .second, .val (.int oz), .val (.int hbv), .val (.int hzv), .val (.int oav), .val (.ref nb5), .val (.long (scanF [] (begin_start q2) (0 : Int64) off begin_empty)), .second, .val (.long q2), .second, .val (.long (0 : Int64)), .second] []))
        refine own_by (fun _ k => XS.lload X11.here hx rfl (hb hby at_227) rfl k) ?_
        show OEnds p e below s _ _ _ (T11.setTop (mkF m 229 #[.val (.long q0), .second, .val (.int q1), .val (.long q2), .second, .val (.int q3), .val (.long q4), .second, .val (.int q5), .val (.int la), .val (.int lb), .val (.long off), .second, .val (.int oz), .val (.int hbv), .val (.int hzv), .val (.int oav), .val (.ref nb5), .val (.long (scanF [] (begin_start q2) (0 : Int64) off begin_empty)), .second, .val (.long q2), .second, .val (.long (0 : Int64)), .second] [(.long (scanF [] (begin_start q2) (0 : Int64) off begin_empty))]))
        refine own_by (fun _ k => XS.lload X11.here hx rfl (hb hby at_229) rfl k) ?_
        show OEnds p e below s _ _ _ (T11.setTop (mkF m 231 #[.val (.long q0), .second, .val (.int q1), .val (.long q2), .second, .val (.int q3), .val (.long q4), .second, .val (.int q5), .val (.int la), .val (.int lb), .val (.long off), .second, .val (.int oz), .val (.int hbv), .val (.int hzv), .val (.int oav), .val (.ref nb5), .val (.long (scanF [] (begin_start q2) (0 : Int64) off begin_empty)), .second, .val (.long q2), .second, .val (.long (0 : Int64)), .second] [(.long q2), (.long (scanF [] (begin_start q2) (0 : Int64) off begin_empty))]))
        refine own_by (X11.ldc2Long hx hown (mvT hZ (hw _ (List.mem_of_getElem? (i := 36) rfl))) (g := (mkF m 231 #[.val (.long q0), .second, .val (.int q1), .val (.long q2), .second, .val (.int q3), .val (.long q4), .second, .val (.int q5), .val (.int la), .val (.int lb), .val (.long off), .second, .val (.int oz), .val (.int hbv), .val (.int hzv), .val (.int oav), .val (.ref nb5), .val (.long (scanF [] (begin_start q2) (0 : Int64) off begin_empty)), .second, .val (.long q2), .second, .val (.long (0 : Int64)), .second] [(.long q2), (.long (scanF [] (begin_start q2) (0 : Int64) off begin_empty))])) rfl (hb hby at_231)) ?_
        show OEnds p e below s _ _ _ (T11.setTop (mkF m 234 #[.val (.long q0), .second, .val (.int q1), .val (.long q2), .second, .val (.int q3), .val (.long q4), .second, .val (.int q5), .val (.int la), .val (.int lb), .val (.long off), .second, .val (.int oz), .val (.int hbv), .val (.int hzv), .val (.int oav), .val (.ref nb5), .val (.long (scanF [] (begin_start q2) (0 : Int64) off begin_empty)), .second, .val (.long q2), .second, .val (.long (0 : Int64)), .second] [(.long (4 : Int64)), (.long q2), (.long (scanF [] (begin_start q2) (0 : Int64) off begin_empty))]))
        refine own_by (fun _ k => XS.lload X11.here hx rfl (hb hby at_234) rfl k) ?_
        show OEnds p e below s _ _ _ (T11.setTop (mkF m 236 #[.val (.long q0), .second, .val (.int q1), .val (.long q2), .second, .val (.int q3), .val (.long q4), .second, .val (.int q5), .val (.int la), .val (.int lb), .val (.long off), .second, .val (.int oz), .val (.int hbv), .val (.int hzv), .val (.int oav), .val (.ref nb5), .val (.long (scanF [] (begin_start q2) (0 : Int64) off begin_empty)), .second, .val (.long q2), .second, .val (.long (0 : Int64)), .second] [(.long (0 : Int64)), (.long (4 : Int64)), (.long q2), (.long (scanF [] (begin_start q2) (0 : Int64) off begin_empty))]))
        refine own_by (fun _ k => XS.lmul X11.here hx rfl (hb hby at_236) rfl k) ?_
        show OEnds p e below s _ _ _ (T11.setTop (mkF m 237 #[.val (.long q0), .second, .val (.int q1), .val (.long q2), .second, .val (.int q3), .val (.long q4), .second, .val (.int q5), .val (.int la), .val (.int lb), .val (.long off), .second, .val (.int oz), .val (.int hbv), .val (.int hzv), .val (.int oav), .val (.ref nb5), .val (.long (scanF [] (begin_start q2) (0 : Int64) off begin_empty)), .second, .val (.long q2), .second, .val (.long (0 : Int64)), .second] [(.long (0 : Int64)), (.long q2), (.long (scanF [] (begin_start q2) (0 : Int64) off begin_empty))]))
        refine own_by (fun _ k => XS.ladd X11.here hx rfl (hb hby at_237) rfl k) ?_
        show OEnds p e below s _ _ _ (T11.setTop (mkF m 238 #[.val (.long q0), .second, .val (.int q1), .val (.long q2), .second, .val (.int q3), .val (.long q4), .second, .val (.int q5), .val (.int la), .val (.int lb), .val (.long off), .second, .val (.int oz), .val (.int hbv), .val (.int hzv), .val (.int oav), .val (.ref nb5), .val (.long (scanF [] (begin_start q2) (0 : Int64) off begin_empty)), .second, .val (.long q2), .second, .val (.long (0 : Int64)), .second] [(.long (q2 + (0 : Int64))), (.long (scanF [] (begin_start q2) (0 : Int64) off begin_empty))]))
        refine own_by (fun _ k => XS.lcmp X11.here hx rfl (hb hby at_238) rfl k) ?_
        show OEnds p e below s _ _ _ (T11.setTop (mkF m 239 #[.val (.long q0), .second, .val (.int q1), .val (.long q2), .second, .val (.int q3), .val (.long q4), .second, .val (.int q5), .val (.int la), .val (.int lb), .val (.long off), .second, .val (.int oz), .val (.int hbv), .val (.int hzv), .val (.int oav), .val (.ref nb5), .val (.long (scanF [] (begin_start q2) (0 : Int64) off begin_empty)), .second, .val (.long q2), .second, .val (.long (0 : Int64)), .second] [(.int (lcmpW (scanF [] (begin_start q2) (0 : Int64) off begin_empty) (q2 + (0 : Int64))))]))
        refine own_by (fun _ k => XS.ifNo X11.here hx rfl (hb hby at_239) rfl ((if0 _ _).trans (teq ((lw_eq _ _).mpr (pl_nil (by decide)))).2) k) ?_
        show OEnds p e below s _ _ _ (T11.setTop (mkF m 242 #[.val (.long q0), .second, .val (.int q1), .val (.long q2), .second, .val (.int q3), .val (.long q4), .second, .val (.int q5), .val (.int la), .val (.int lb), .val (.long off), .second, .val (.int oz), .val (.int hbv), .val (.int hzv), .val (.int oav), .val (.ref nb5), .val (.long (scanF [] (begin_start q2) (0 : Int64) off begin_empty)), .second, .val (.long q2), .second, .val (.long (0 : Int64)), .second] []))
        refine own_by (fun _ k => XS.iconst X11.here hx rfl (hb hby at_242) k) ?_
        show OEnds p e below s _ _ _ (T11.setTop (mkF m 243 #[.val (.long q0), .second, .val (.int q1), .val (.long q2), .second, .val (.int q3), .val (.long q4), .second, .val (.int q5), .val (.int la), .val (.int lb), .val (.long off), .second, .val (.int oz), .val (.int hbv), .val (.int hzv), .val (.int oav), .val (.ref nb5), .val (.long (scanF [] (begin_start q2) (0 : Int64) off begin_empty)), .second, .val (.long q2), .second, .val (.long (0 : Int64)), .second] [(.int (1 : Int32))]))
        refine own_by (fun _ k => XS.goto X11.here hx rfl (pc0 := 243) (pc' := 247) rfl (hb hby at_243) (by decide) (by decide) k) ?_
        show OEnds p e below s _ _ _ (T11.setTop (mkF m 247 #[.val (.long q0), .second, .val (.int q1), .val (.long q2), .second, .val (.int q3), .val (.long q4), .second, .val (.int q5), .val (.int la), .val (.int lb), .val (.long off), .second, .val (.int oz), .val (.int hbv), .val (.int hzv), .val (.int oav), .val (.ref nb5), .val (.long (scanF [] (begin_start q2) (0 : Int64) off begin_empty)), .second, .val (.long q2), .second, .val (.long (0 : Int64)), .second] [(.int (1 : Int32))]))
        exact own_retN X11 hx hlk .boolean (by simp) Bd.returns (hb hby at_247) ⟨rfl, N8⟩ (by decide) (by decide)
      · refine own_by (fun _ k => XS.ifNo X8.here hx rfl (hb hby at_136) rfl ((if0 _ _).trans (feq hc136_10).1) k) ?_
        show OEnds p e below s _ _ _ (T8.setTop (mkF m 139 #[.val (.long q0), .second, .val (.int q1), .val (.long q2), .second, .val (.int q3), .val (.long q4), .second, .val (.int q5), .val (.int la), .val (.int lb), .val (.long off), .second, .val (.int oz), .val (.int hbv), .val (.int hzv), .val (.int oav), .val (.ref nb5), .unset, .unset, .unset, .unset, .unset, .unset] []))
        refine own_by (fun _ k => XS.aload X8.here hx rfl (hb hby at_139) rfl rfl k) ?_
        show OEnds p e below s _ _ _ (T8.setTop (mkF m 141 #[.val (.long q0), .second, .val (.int q1), .val (.long q2), .second, .val (.int q3), .val (.long q4), .second, .val (.int q5), .val (.int la), .val (.int lb), .val (.long off), .second, .val (.int oz), .val (.int hbv), .val (.int hzv), .val (.int oav), .val (.ref nb5), .unset, .unset, .unset, .unset, .unset, .unset] [(.ref nb5)]))
        refine own_by (fun _ k => XS.iconst X8.here hx rfl (hb hby at_141) k) ?_
        show OEnds p e below s _ _ _ (T8.setTop (mkF m 142 #[.val (.long q0), .second, .val (.int q1), .val (.long q2), .second, .val (.int q3), .val (.long q4), .second, .val (.int q5), .val (.int la), .val (.int lb), .val (.long off), .second, .val (.int oz), .val (.int hbv), .val (.int hzv), .val (.int oav), .val (.ref nb5), .unset, .unset, .unset, .unset, .unset, .unset] [(.int (0 : Int32)), (.ref nb5)]))
        obtain ⟨v13, T13, L13, h13, X13, e13, hQ13, st13⟩ := own_callV X8 hx hZ (y := (⟨"com/example/fourfold/fourfold/xdr/FragmentMap", "add", "(I)V"⟩ : MethodName)) hown (hw _ (List.mem_of_getElem? (i := 25) rfl)) (hw _ (List.mem_of_getElem? (i := 26) rfl)) (hw _ (List.mem_of_getElem? (i := 28) rfl)) (hw _ (List.mem_of_getElem? (i := 27) rfl)) (hw _ (List.mem_of_getElem? (i := 29) rfl)) (hw _ (List.mem_of_getElem? (i := 4) rfl)) (by decide) O8.exa (rm_addZ l Z a0 hw [] nb5 (0 : Int32) bf (begin_start q2) begin_size begin_empty h8 n0 Z8 O8 g_nb5 rfl) e8 (g := (mkF m 142 #[.val (.long q0), .second, .val (.int q1), .val (.long q2), .second, .val (.int q3), .val (.long q4), .second, .val (.int q5), .val (.int la), .val (.int lb), .val (.long off), .second, .val (.int oz), .val (.int hbv), .val (.int hzv), .val (.int oav), .val (.ref nb5), .unset, .unset, .unset, .unset, .unset, .unset] [(.int (0 : Int32)), (.ref nb5)])) rfl (by rw [hml]; rfl) (argsL := [(.int (0 : Int32))]) (rest := []) (lenOf pd_pIrV rfl) rfl (W := 0) (by show 2 * 0 + _ ≤ _; exact Nat.le_of_eq rfl) (hb hby at_142) (by decide) (by decide) (by decide) (by decide)
        obtain ⟨rfl, Nq13, Kq13, O13⟩ := hQ13
        have F14 : FA Z h8 bf .byte 16 (fun i => .int (cf i)) := (Fa_bl116_bf.keep Kq8 (ninS (Ne.symm (Ob_bl116_nb5.ne_fa (hw _ (List.mem_of_getElem? (i := 3) rfl)) Fa_bl116_bf)) nin0))
        have N13 := Fr.app N8 Nq13
        have Z13 : n0 ≤ h13.size := Nat.le_trans Z8 Kq13.1
        refine own_tr st13 ?_
        show OEnds p e below s _ _ _ (T13.setTop (mkF m 145 #[.val (.long q0), .second, .val (.int q1), .val (.long q2), .second, .val (.int q3), .val (.long q4), .second, .val (.int q5), .val (.int la), .val (.int lb), .val (.long off), .second, .val (.int oz), .val (.int hbv), .val (.int hzv), .val (.int oav), .val (.ref nb5), .unset, .unset, .unset, .unset, .unset, .unset] []))
        refine own_by (fun _ k => XS.aload X13.here hx rfl (hb hby at_145) rfl rfl k) ?_
        show OEnds p e below s _ _ _ (T13.setTop (mkF m 147 #[.val (.long q0), .second, .val (.int q1), .val (.long q2), .second, .val (.int q3), .val (.long q4), .second, .val (.int q5), .val (.int la), .val (.int lb), .val (.long off), .second, .val (.int oz), .val (.int hbv), .val (.int hzv), .val (.int oav), .val (.ref nb5), .unset, .unset, .unset, .unset, .unset, .unset] [(.ref nb5)]))
        refine own_by (fun _ k => XS.lload X13.here hx rfl (hb hby at_147) rfl k) ?_
        show OEnds p e below s _ _ _ (T13.setTop (mkF m 149 #[.val (.long q0), .second, .val (.int q1), .val (.long q2), .second, .val (.int q3), .val (.long q4), .second, .val (.int q5), .val (.int la), .val (.int lb), .val (.long off), .second, .val (.int oz), .val (.int hbv), .val (.int hzv), .val (.int oav), .val (.ref nb5), .unset, .unset, .unset, .unset, .unset, .unset] [(.long off), (.ref nb5)]))
        have F16 : FA Z h13 bf .byte 16 (fun i => .int (cf i)) := (F14.keep Kq13 (ninS (Ne.symm (O8.ne_fa (hw _ (List.mem_of_getElem? (i := 3) rfl)) F14)) nin0))
        obtain ⟨T15, X15, e15, st15⟩ := own_callR X13 hx hZ (y := (⟨"com/example/fourfold/fourfold/xdr/FragmentMap", "inStream", "(J)J"⟩ : MethodName)) hown (hw _ (List.mem_of_getElem? (i := 30) rfl)) (hw _ (List.mem_of_getElem? (i := 31) rfl)) (hw _ (List.mem_of_getElem? (i := 33) rfl)) (hw _ (List.mem_of_getElem? (i := 32) rfl)) (hw _ (List.mem_of_getElem? (i := 34) rfl)) (hw _ (List.mem_of_getElem? (i := 4) rfl)) (by decide) O13.exa (rm_inStream l Z a0 hw [] nb5 off bf (begin_start q2) begin_size (begin_empty + (1 : Int64)) cf 16 0 [] h13 n0 Z13 O13 F16 (by decide) rfl (by decide) (by decide)) e13 (g := (mkF m 149 #[.val (.long q0), .second, .val (.int q1), .val (.long q2), .second, .val (.int q3), .val (.long q4), .second, .val (.int q5), .val (.int la), .val (.int lb), .val (.long off), .second, .val (.int oz), .val (.int hbv), .val (.int hzv), .val (.int oav), .val (.ref nb5), .unset, .unset, .unset, .unset, .unset, .unset] [(.long off), (.ref nb5)])) rfl (by rw [hml]; rfl) (argsL := [(.long off)]) (rest := []) (lenOf pd_pJrJ rfl) rfl (W := 0) (by show 2 * 0 + _ ≤ _; exact Nat.le_of_eq rfl) (hb hby at_149) (by decide) (by decide) (by decide) (by decide)
        refine own_by (st15) ?_
        show OEnds p e below s _ _ _ (T15.setTop (mkF m 152 #[.val (.long q0), .second, .val (.int q1), .val (.long q2), .second, .val (.int q3), .val (.long q4), .second, .val (.int q5), .val (.int la), .val (.int lb), .val (.long off), .second, .val (.int oz), .val (.int hbv), .val (.int hzv), .val (.int oav), .val (.ref nb5), .unset, .unset, .unset, .unset, .unset, .unset] [(.long (scanF [] (begin_start q2) (0 : Int64) off (begin_empty + (1 : Int64))))]))
        refine own_by (fun _ k => XS.lstore X15.here hx rfl (hb hby at_152) rfl (l' := #[.val (.long q0), .second, .val (.int q1), .val (.long q2), .second, .val (.int q3), .val (.long q4), .second, .val (.int q5), .val (.int la), .val (.int lb), .val (.long off), .second, .val (.int oz), .val (.int hbv), .val (.int hzv), .val (.int oav), .val (.ref nb5), .val (.long (scanF [] (begin_start q2) (0 : Int64) off (begin_empty + (1 : Int64)))), .second, .unset, .unset, .unset, .unset]) rfl k) ?_
        show OEnds p e below s _ _ _ (T15.setTop (mkF m 154 #[.val (.long q0), .second, .val (.int q1), .val (.long q2), .second, .val (.int q3), .val (.long q4), .second, .val (.int q5), .val (.int la), .val (.int lb), .val (.long off), .second, .val (.int oz), .val (.int hbv), .val (.int hzv), .val (.int oav), .val (.ref nb5), .val (.long (scanF [] (begin_start q2) (0 : Int64) off (begin_empty + (1 : Int64)))), .second, .unset, .unset, .unset, .unset] []))
        refine own_by (fun _ k => XS.lloadN X15.here hx rfl (hb hby at_154) rfl k) ?_
        show OEnds p e below s _ _ _ (T15.setTop (mkF m 155 #[.val (.long q0), .second, .val (.int q1), .val (.long q2), .second, .val (.int q3), .val (.long q4), .second, .val (.int q5), .val (.int la), .val (.int lb), .val (.long off), .second, .val (.int oz), .val (.int hbv), .val (.int hzv), .val (.int oav), .val (.ref nb5), .val (.long (scanF [] (begin_start q2) (0 : Int64) off (begin_empty + (1 : Int64)))), .second, .unset, .unset, .unset, .unset] [(.long q2)]))
        refine own_by (fun _ k => XS.lstore X15.here hx rfl (hb hby at_155) rfl (l' := #[.val (.long q0), .second, .val (.int q1), .val (.long q2), .second, .val (.int q3), .val (.long q4), .second, .val (.int q5), .val (.int la), .val (.int lb), .val (.long off), .second, .val (.int oz), .val (.int hbv), .val (.int hzv), .val (.int oav), .val (.ref nb5), .val (.long (scanF [] (begin_start q2) (0 : Int64) off (begin_empty + (1 : Int64)))), .second, .val (.long q2), .second, .unset, .unset]) rfl k) ?_
        show OEnds p e below s _ _ _ (T15.setTop (mkF m 157 #[.val (.long q0), .second, .val (.int q1), .val (.long q2), .second, .val (.int q3), .val (.long q4), .second, .val (.int q5), .val (.int la), .val (.int lb), .val (.long off), .second, .val (.int oz), .val (.int hbv), .val (.int hzv), .val (.int oav), .val (.ref nb5), .val (.long (scanF [] (begin_start q2) (0 : Int64) off (begin_empty + (1 : Int64)))), .second, .val (.long q2), .second, .unset, .unset] []))
        refine own_by (fun _ k => XS.lconst X15.here hx rfl (hb hby at_157) k) ?_
        show OEnds p e below s _ _ _ (T15.setTop (mkF m 158 #[.val (.long q0), .second, .val (.int q1), .val (.long q2), .second, .val (.int q3), .val (.long q4), .second, .val (.int q5), .val (.int la), .val (.int lb), .val (.long off), .second, .val (.int oz), .val (.int hbv), .val (.int hzv), .val (.int oav), .val (.ref nb5), .val (.long (scanF [] (begin_start q2) (0 : Int64) off (begin_empty + (1 : Int64)))), .second, .val (.long q2), .second, .unset, .unset] [(.long (0 : Int64))]))
        refine own_by (fun _ k => XS.lstore X15.here hx rfl (hb hby at_158) rfl (l' := #[.val (.long q0), .second, .val (.int q1), .val (.long q2), .second, .val (.int q3), .val (.long q4), .second, .val (.int q5), .val (.int la), .val (.int lb), .val (.long off), .second, .val (.int oz), .val (.int hbv), .val (.int hzv), .val (.int oav), .val (.ref nb5), .val (.long (scanF [] (begin_start q2) (0 : Int64) off (begin_empty + (1 : Int64)))), .second, .val (.long q2), .second, .val (.long (0 : Int64)), .second]) rfl k) ?_
        show OEnds p e below s _ _ _ (T15.setTop (mkF m 160 #[.val (.long q0), .second, .val (.int q1), .val (.long q2), .second, .val (.int q3), .val (.long q4), .second, .val (.int q5), .val (.int la), .val (.int lb), .val (.long off), .second, .val (.int oz), .val (.int hbv), .val (.int hzv), .val (.int oav), .val (.ref nb5), .val (.long (scanF [] (begin_start q2) (0 : Int64) off (begin_empty + (1 : Int64)))), .second, .val (.long q2), .second, .val (.long (0 : Int64)), .second] []))
        refine own_by (fun _ k => XS.iload X15.here hx rfl (hb hby at_160) rfl k) ?_
        show OEnds p e below s _ _ _ (T15.setTop (mkF m 162 #[.val (.long q0), .second, .val (.int q1), .val (.long q2), .second, .val (.int q3), .val (.long q4), .second, .val (.int q5), .val (.int la), .val (.int lb), .val (.long off), .second, .val (.int oz), .val (.int hbv), .val (.int hzv), .val (.int oav), .val (.ref nb5), .val (.long (scanF [] (begin_start q2) (0 : Int64) off (begin_empty + (1 : Int64)))), .second, .val (.long q2), .second, .val (.long (0 : Int64)), .second] [(.int hbv)]))
        refine own_by (fun _ k => XS.ifYes X15.here hx rfl (pc0 := 162) (pc' := 216) rfl (hb hby at_162) rfl ((if0 _ _).trans (teq hc124_9).1) (by decide) (by decide) k) ?_
        show OEnds p e below s _ _ _ (T15.setTop (mkF m 216 #[.val (.long q0), .second, .val (.int q1), .val (.long q2), .second, .val (.int q3), .val (.long q4), .second, .val (.int q5), .val (.int la), .val (.int lb), .val (.long off), .second, .val (.int oz), .val (.int hbv), .val (.int hzv), .val (.int oav), .val (.ref nb5), .val (.long (scanF [] (begin_start q2) (0 : Int64) off (begin_empty + (1 : Int64)))), .second, .val (.long q2), .second, .val (.long (0 : Int64)), .second] []))
        refine own_by (fun _ k => XS.iload X15.here hx rfl (hb hby at_216) rfl k) ?_
        show OEnds p e below s _ _ _ (T15.setTop (mkF m 218 #[.val (.long q0), .second, .val (.int q1), .val (.long q2), .second, .val (.int q3), .val (.long q4), .second, .val (.int q5), .val (.int la), .val (.int lb), .val (.long off), .second, .val (.int oz), .val (.int hbv), .val (.int hzv), .val (.int oav), .val (.ref nb5), .val (.long (scanF [] (begin_start q2) (0 : Int64) off (begin_empty + (1 : Int64)))), .second, .val (.long q2), .second, .val (.long (0 : Int64)), .second] [(.int hzv)]))
        refine own_by (fun _ k => XS.ifNo X15.here hx rfl (hb hby at_218) rfl ((if0 _ _).trans (feq hc136_10).1) k) ?_
        show OEnds p e below s _ _ _ (T15.setTop (mkF m 221 #[.val (.long q0), .second, .val (.int q1), .val (.long q2), .second, .val (.int q3), .val (.long q4), .second, .val (.int q5), .val (.int la), .val (.int lb), .val (.long off), .second, .val (.int oz), .val (.int hbv), .val (.int hzv), .val (.int oav), .val (.ref nb5), .val (.long (scanF [] (begin_start q2) (0 : Int64) off (begin_empty + (1 : Int64)))), .second, .val (.long q2), .second, .val (.long (0 : Int64)), .second] []))
        refine own_by (fun _ k => XS.lload X15.here hx rfl (hb hby at_221) rfl k) ?_
        show OEnds p e below s _ _ _ (T15.setTop (mkF m 223 #[.val (.long q0), .second, .val (.int q1), .val (.long q2), .second, .val (.int q3), .val (.long q4), .second, .val (.int q5), .val (.int la), .val (.int lb), .val (.long off), .second, .val (.int oz), .val (.int hbv), .val (.int hzv), .val (.int oav), .val (.ref nb5), .val (.long (scanF [] (begin_start q2) (0 : Int64) off (begin_empty + (1 : Int64)))), .second, .val (.long q2), .second, .val (.long (0 : Int64)), .second] [(.long (0 : Int64))]))
        refine own_by (fun _ k => XS.lconst X15.here hx rfl (hb hby at_223) k) ?_
        show OEnds p e below s _ _ _ (T15.setTop (mkF m 224 #[.val (.long q0), .second, .val (.int q1), .val (.long q2), .second, .val (.int q3), .val (.long q4), .second, .val (.int q5), .val (.int la), .val (.int lb), .val (.long off), .second, .val (.int oz), .val (.int hbv), .val (.int hzv), .val (.int oav), .val (.ref nb5), .val (.long (scanF [] (begin_start q2) (0 : Int64) off (begin_empty + (1 : Int64)))), .second, .val (.long q2), .second, .val (.long (0 : Int64)), .second] [(.long (1 : Int64)), (.long (0 : Int64))]))
        refine own_by (fun _ k => XS.ladd X15.here hx rfl (hb hby at_224) rfl k) ?_
        show OEnds p e below s _ _ _ (T15.setTop (mkF m 225 #[.val (.long q0), .second, .val (.int q1), .val (.long q2), .second, .val (.int q3), .val (.long q4), .second, .val (.int q5), .val (.int la), .val (.int lb), .val (.long off), .second, .val (.int oz), .val (.int hbv), .val (.int hzv), .val (.int oav), .val (.ref nb5), .val (.long (scanF [] (begin_start q2) (0 : Int64) off (begin_empty + (1 : Int64)))), .second, .val (.long q2), .second, .val (.long (0 : Int64)), .second] [(.long (1 : Int64))]))
        refine own_by (fun _ k => XS.lstore X15.here hx rfl (hb hby at_225) rfl (l' := #[.val (.long q0), .second, .val (.int q1), .val (.long q2), .second, .val (.int q3), .val (.long q4), .second, .val (.int q5), .val (.int la), .val (.int lb), .val (.long off), .second, .val (.int oz), .val (.int hbv), .val (.int hzv), .val (.int oav), .val (.ref nb5), .val (.long (scanF [] (begin_start q2) (0 : Int64) off (begin_empty + (1 : Int64)))), .second, .val (.long q2), .second, .val (.long (1 : Int64)), .second]) rfl k) ?_
        show OEnds p e below s _ _ _ (T15.setTop (mkF m 227 #[.val (.long q0), .second, .val (.int q1), .val (.long q2), .second, .val (.int q3), .val (.long q4), .second, .val (.int q5), .val (.int la), .val (.int lb), .val (.long off), .second, .val (.int oz), .val (.int hbv), .val (.int hzv), .val (.int oav), .val (.ref nb5), .val (.long (scanF [] (begin_start q2) (0 : Int64) off (begin_empty + (1 : Int64)))), .second, .val (.long q2), .second, .val (.long (1 : Int64)), .second] []))
        refine own_by (fun _ k => XS.lload X15.here hx rfl (hb hby at_227) rfl k) ?_
        show OEnds p e below s _ _ _ (T15.setTop (mkF m 229 #[.val (.long q0), .second, .val (.int q1), .val (.long q2), .second, .val (.int q3), .val (.long q4), .second, .val (.int q5), .val (.int la), .val (.int lb), .val (.long off), .second, .val (.int oz), .val (.int hbv), .val (.int hzv), .val (.int oav), .val (.ref nb5), .val (.long (scanF [] (begin_start q2) (0 : Int64) off (begin_empty + (1 : Int64)))), .second, .val (.long q2), .second, .val (.long (1 : Int64)), .second] [(.long (scanF [] (begin_start q2) (0 : Int64) off (begin_empty + (1 : Int64))))]))
        refine own_by (fun _ k => XS.lload X15.here hx rfl (hb hby at_229) rfl k) ?_
        show OEnds p e below s _ _ _ (T15.setTop (mkF m 231 #[.val (.long q0), .second, .val (.int q1), .val (.long q2), .second, .val (.int q3), .val (.long q4), .second, .val (.int q5), .val (.int la), .val (.int lb), .val (.long off), .second, .val (.int oz), .val (.int hbv), .val (.int hzv), .val (.int oav), .val (.ref nb5), .val (.long (scanF [] (begin_start q2) (0 : Int64) off (begin_empty + (1 : Int64)))), .second, .val (.long q2), .second, .val (.long (1 : Int64)), .second] [(.long q2), (.long (scanF [] (begin_start q2) (0 : Int64) off (begin_empty + (1 : Int64))))]))
        refine own_by (X15.ldc2Long hx hown (mvT hZ (hw _ (List.mem_of_getElem? (i := 36) rfl))) (g := (mkF m 231 #[.val (.long q0), .second, .val (.int q1), .val (.long q2), .second, .val (.int q3), .val (.long q4), .second, .val (.int q5), .val (.int la), .val (.int lb), .val (.long off), .second, .val (.int oz), .val (.int hbv), .val (.int hzv), .val (.int oav), .val (.ref nb5), .val (.long (scanF [] (begin_start q2) (0 : Int64) off (begin_empty + (1 : Int64)))), .second, .val (.long q2), .second, .val (.long (1 : Int64)), .second] [(.long q2), (.long (scanF [] (begin_start q2) (0 : Int64) off (begin_empty + (1 : Int64))))])) rfl (hb hby at_231)) ?_
        show OEnds p e below s _ _ _ (T15.setTop (mkF m 234 #[.val (.long q0), .second, .val (.int q1), .val (.long q2), .second, .val (.int q3), .val (.long q4), .second, .val (.int q5), .val (.int la), .val (.int lb), .val (.long off), .second, .val (.int oz), .val (.int hbv), .val (.int hzv), .val (.int oav), .val (.ref nb5), .val (.long (scanF [] (begin_start q2) (0 : Int64) off (begin_empty + (1 : Int64)))), .second, .val (.long q2), .second, .val (.long (1 : Int64)), .second] [(.long (4 : Int64)), (.long q2), (.long (scanF [] (begin_start q2) (0 : Int64) off (begin_empty + (1 : Int64))))]))
        refine own_by (fun _ k => XS.lload X15.here hx rfl (hb hby at_234) rfl k) ?_
        show OEnds p e below s _ _ _ (T15.setTop (mkF m 236 #[.val (.long q0), .second, .val (.int q1), .val (.long q2), .second, .val (.int q3), .val (.long q4), .second, .val (.int q5), .val (.int la), .val (.int lb), .val (.long off), .second, .val (.int oz), .val (.int hbv), .val (.int hzv), .val (.int oav), .val (.ref nb5), .val (.long (scanF [] (begin_start q2) (0 : Int64) off (begin_empty + (1 : Int64)))), .second, .val (.long q2), .second, .val (.long (1 : Int64)), .second] [(.long (1 : Int64)), (.long (4 : Int64)), (.long q2), (.long (scanF [] (begin_start q2) (0 : Int64) off (begin_empty + (1 : Int64))))]))
        refine own_by (fun _ k => XS.lmul X15.here hx rfl (hb hby at_236) rfl k) ?_
        show OEnds p e below s _ _ _ (T15.setTop (mkF m 237 #[.val (.long q0), .second, .val (.int q1), .val (.long q2), .second, .val (.int q3), .val (.long q4), .second, .val (.int q5), .val (.int la), .val (.int lb), .val (.long off), .second, .val (.int oz), .val (.int hbv), .val (.int hzv), .val (.int oav), .val (.ref nb5), .val (.long (scanF [] (begin_start q2) (0 : Int64) off (begin_empty + (1 : Int64)))), .second, .val (.long q2), .second, .val (.long (1 : Int64)), .second] [(.long (4 : Int64)), (.long q2), (.long (scanF [] (begin_start q2) (0 : Int64) off (begin_empty + (1 : Int64))))]))
        refine own_by (fun _ k => XS.ladd X15.here hx rfl (hb hby at_237) rfl k) ?_
        show OEnds p e below s _ _ _ (T15.setTop (mkF m 238 #[.val (.long q0), .second, .val (.int q1), .val (.long q2), .second, .val (.int q3), .val (.long q4), .second, .val (.int q5), .val (.int la), .val (.int lb), .val (.long off), .second, .val (.int oz), .val (.int hbv), .val (.int hzv), .val (.int oav), .val (.ref nb5), .val (.long (scanF [] (begin_start q2) (0 : Int64) off (begin_empty + (1 : Int64)))), .second, .val (.long q2), .second, .val (.long (1 : Int64)), .second] [(.long (q2 + (4 : Int64))), (.long (scanF [] (begin_start q2) (0 : Int64) off (begin_empty + (1 : Int64))))]))
        refine own_by (fun _ k => XS.lcmp X15.here hx rfl (hb hby at_238) rfl k) ?_
        show OEnds p e below s _ _ _ (T15.setTop (mkF m 239 #[.val (.long q0), .second, .val (.int q1), .val (.long q2), .second, .val (.int q3), .val (.long q4), .second, .val (.int q5), .val (.int la), .val (.int lb), .val (.long off), .second, .val (.int oz), .val (.int hbv), .val (.int hzv), .val (.int oav), .val (.ref nb5), .val (.long (scanF [] (begin_start q2) (0 : Int64) off (begin_empty + (1 : Int64)))), .second, .val (.long q2), .second, .val (.long (1 : Int64)), .second] [(.int (lcmpW (scanF [] (begin_start q2) (0 : Int64) off (begin_empty + (1 : Int64))) (q2 + (4 : Int64))))]))
        refine own_by (fun _ k => XS.ifNo X15.here hx rfl (hb hby at_239) rfl ((if0 _ _).trans (teq ((lw_eq _ _).mpr (pl_nil (by decide)))).2) k) ?_
        show OEnds p e below s _ _ _ (T15.setTop (mkF m 242 #[.val (.long q0), .second, .val (.int q1), .val (.long q2), .second, .val (.int q3), .val (.long q4), .second, .val (.int q5), .val (.int la), .val (.int lb), .val (.long off), .second, .val (.int oz), .val (.int hbv), .val (.int hzv), .val (.int oav), .val (.ref nb5), .val (.long (scanF [] (begin_start q2) (0 : Int64) off (begin_empty + (1 : Int64)))), .second, .val (.long q2), .second, .val (.long (1 : Int64)), .second] []))
        refine own_by (fun _ k => XS.iconst X15.here hx rfl (hb hby at_242) k) ?_
        show OEnds p e below s _ _ _ (T15.setTop (mkF m 243 #[.val (.long q0), .second, .val (.int q1), .val (.long q2), .second, .val (.int q3), .val (.long q4), .second, .val (.int q5), .val (.int la), .val (.int lb), .val (.long off), .second, .val (.int oz), .val (.int hbv), .val (.int hzv), .val (.int oav), .val (.ref nb5), .val (.long (scanF [] (begin_start q2) (0 : Int64) off (begin_empty + (1 : Int64)))), .second, .val (.long q2), .second, .val (.long (1 : Int64)), .second] [(.int (1 : Int32))]))
        refine own_by (fun _ k => XS.goto X15.here hx rfl (pc0 := 243) (pc' := 247) rfl (hb hby at_243) (by decide) (by decide) k) ?_
        show OEnds p e below s _ _ _ (T15.setTop (mkF m 247 #[.val (.long q0), .second, .val (.int q1), .val (.long q2), .second, .val (.int q3), .val (.long q4), .second, .val (.int q5), .val (.int la), .val (.int lb), .val (.long off), .second, .val (.int oz), .val (.int hbv), .val (.int hzv), .val (.int oav), .val (.ref nb5), .val (.long (scanF [] (begin_start q2) (0 : Int64) off (begin_empty + (1 : Int64)))), .second, .val (.long q2), .second, .val (.long (1 : Int64)), .second] [(.int (1 : Int32))]))
        exact own_retN X15 hx hlk .boolean (by simp) Bd.returns (hb hby at_247) ⟨rfl, N13⟩ (by decide) (by decide)
    · refine own_by (fun _ k => XS.ifNo X8.here hx rfl (hb hby at_124) rfl ((if0 _ _).trans (feq hc124_9).1) k) ?_
      show OEnds p e below s _ _ _ (T8.setTop (mkF m 127 #[.val (.long q0), .second, .val (.int q1), .val (.long q2), .second, .val (.int q3), .val (.long q4), .second, .val (.int q5), .val (.int la), .val (.int lb), .val (.long off), .second, .val (.int oz), .val (.int hbv), .val (.int hzv), .val (.int oav), .val (.ref nb5), .unset, .unset, .unset, .unset, .unset, .unset] []))
      by_cases hz17 : lb = (0 : Int32)
      · show OEnds p e below s _ _ _ (T8.setTop (mkF m 127 #[.val (.long q0), .second, .val (.int q1), .val (.long q2), .second, .val (.int q3), .val (.long q4), .second, .val (.int q5), .val (.int la), .val (.int lb), .val (.long off), .second, .val (.int oz), .val (.int hbv), .val (.int hzv), .val (.int oav), .val (.ref nb5), .unset, .unset, .unset, .unset, .unset, .unset] []))
        refine own_by (fun _ k => XS.aload X8.here hx rfl (hb hby at_127) rfl rfl k) ?_
        show OEnds p e below s _ _ _ (T8.setTop (mkF m 129 #[.val (.long q0), .second, .val (.int q1), .val (.long q2), .second, .val (.int q3), .val (.long q4), .second, .val (.int q5), .val (.int la), .val (.int lb), .val (.long off), .second, .val (.int oz), .val (.int hbv), .val (.int hzv), .val (.int oav), .val (.ref nb5), .unset, .unset, .unset, .unset, .unset, .unset] [(.ref nb5)]))
        refine own_by (fun _ k => XS.iload X8.here hx rfl (hb hby at_129) rfl k) ?_
        show OEnds p e below s _ _ _ (T8.setTop (mkF m 131 #[.val (.long q0), .second, .val (.int q1), .val (.long q2), .second, .val (.int q3), .val (.long q4), .second, .val (.int q5), .val (.int la), .val (.int lb), .val (.long off), .second, .val (.int oz), .val (.int hbv), .val (.int hzv), .val (.int oav), .val (.ref nb5), .unset, .unset, .unset, .unset, .unset, .unset] [(.int lb), (.ref nb5)]))
        obtain ⟨v18, T18, L18, h18, X18, e18, hQ18, st18⟩ := own_callV X8 hx hZ (y := (⟨"com/example/fourfold/fourfold/xdr/FragmentMap", "add", "(I)V"⟩ : MethodName)) hown (hw _ (List.mem_of_getElem? (i := 25) rfl)) (hw _ (List.mem_of_getElem? (i := 26) rfl)) (hw _ (List.mem_of_getElem? (i := 28) rfl)) (hw _ (List.mem_of_getElem? (i := 27) rfl)) (hw _ (List.mem_of_getElem? (i := 29) rfl)) (hw _ (List.mem_of_getElem? (i := 4) rfl)) (by decide) O8.exa (rm_addZ l Z a0 hw [] nb5 lb bf (begin_start q2) begin_size begin_empty h8 n0 Z8 O8 g_nb5 hz17) e8 (g := (mkF m 131 #[.val (.long q0), .second, .val (.int q1), .val (.long q2), .second, .val (.int q3), .val (.long q4), .second, .val (.int q5), .val (.int la), .val (.int lb), .val (.long off), .second, .val (.int oz), .val (.int hbv), .val (.int hzv), .val (.int oav), .val (.ref nb5), .unset, .unset, .unset, .unset, .unset, .unset] [(.int lb), (.ref nb5)])) rfl (by rw [hml]; rfl) (argsL := [(.int lb)]) (rest := []) (lenOf pd_pIrV rfl) rfl (W := 0) (by show 2 * 0 + _ ≤ _; exact Nat.le_of_eq rfl) (hb hby at_131) (by decide) (by decide) (by decide) (by decide)
        obtain ⟨rfl, Nq18, Kq18, O18⟩ := hQ18
        have F19 : FA Z h8 bf .byte 16 (fun i => .int (cf i)) := (Fa_bl116_bf.keep Kq8 (ninS (Ne.symm (Ob_bl116_nb5.ne_fa (hw _ (List.mem_of_getElem? (i := 3) rfl)) Fa_bl116_bf)) nin0))
        have N18 := Fr.app N8 Nq18
        have Z18 : n0 ≤ h18.size := Nat.le_trans Z8 Kq18.1
        refine own_tr st18 ?_
        show OEnds p e below s _ _ _ (T18.setTop (mkF m 134 #[.val (.long q0), .second, .val (.int q1), .val (.long q2), .second, .val (.int q3), .val (.long q4), .second, .val (.int q5), .val (.int la), .val (.int lb), .val (.long off), .second, .val (.int oz), .val (.int hbv), .val (.int hzv), .val (.int oav), .val (.ref nb5), .unset, .unset, .unset, .unset, .unset, .unset] []))
        refine own_by (fun _ k => XS.iload X18.here hx rfl (hb hby at_134) rfl k) ?_
        show OEnds p e below s _ _ _ (T18.setTop (mkF m 136 #[.val (.long q0), .second, .val (.int q1), .val (.long q2), .second, .val (.int q3), .val (.long q4), .second, .val (.int q5), .val (.int la), .val (.int lb), .val (.long off), .second, .val (.int oz), .val (.int hbv), .val (.int hzv), .val (.int oav), .val (.ref nb5), .unset, .unset, .unset, .unset, .unset, .unset] [(.int hzv)]))
        by_cases hc136_20 : hzv = (0 : Int32)
        · refine own_by (fun _ k => XS.ifYes X18.here hx rfl (pc0 := 136) (pc' := 145) rfl (hb hby at_136) rfl ((if0 _ _).trans (teq hc136_20).1) (by decide) (by decide) k) ?_
          show OEnds p e below s _ _ _ (T18.setTop (mkF m 145 #[.val (.long q0), .second, .val (.int q1), .val (.long q2), .second, .val (.int q3), .val (.long q4), .second, .val (.int q5), .val (.int la), .val (.int lb), .val (.long off), .second, .val (.int oz), .val (.int hbv), .val (.int hzv), .val (.int oav), .val (.ref nb5), .unset, .unset, .unset, .unset, .unset, .unset] []))
          refine own_by (fun _ k => XS.aload X18.here hx rfl (hb hby at_145) rfl rfl k) ?_
          show OEnds p e below s _ _ _ (T18.setTop (mkF m 147 #[.val (.long q0), .second, .val (.int q1), .val (.long q2), .second, .val (.int q3), .val (.long q4), .second, .val (.int q5), .val (.int la), .val (.int lb), .val (.long off), .second, .val (.int oz), .val (.int hbv), .val (.int hzv), .val (.int oav), .val (.ref nb5), .unset, .unset, .unset, .unset, .unset, .unset] [(.ref nb5)]))
          refine own_by (fun _ k => XS.lload X18.here hx rfl (hb hby at_147) rfl k) ?_
          show OEnds p e below s _ _ _ (T18.setTop (mkF m 149 #[.val (.long q0), .second, .val (.int q1), .val (.long q2), .second, .val (.int q3), .val (.long q4), .second, .val (.int q5), .val (.int la), .val (.int lb), .val (.long off), .second, .val (.int oz), .val (.int hbv), .val (.int hzv), .val (.int oav), .val (.ref nb5), .unset, .unset, .unset, .unset, .unset, .unset] [(.long off), (.ref nb5)]))
          have F22 : FA Z h18 bf .byte 16 (fun i => .int (cf i)) := (F19.keep Kq18 (ninS (Ne.symm (O8.ne_fa (hw _ (List.mem_of_getElem? (i := 3) rfl)) F19)) nin0))
          obtain ⟨T21, X21, e21, st21⟩ := own_callR X18 hx hZ (y := (⟨"com/example/fourfold/fourfold/xdr/FragmentMap", "inStream", "(J)J"⟩ : MethodName)) hown (hw _ (List.mem_of_getElem? (i := 30) rfl)) (hw _ (List.mem_of_getElem? (i := 31) rfl)) (hw _ (List.mem_of_getElem? (i := 33) rfl)) (hw _ (List.mem_of_getElem? (i := 32) rfl)) (hw _ (List.mem_of_getElem? (i := 34) rfl)) (hw _ (List.mem_of_getElem? (i := 4) rfl)) (by decide) O18.exa (rm_inStream l Z a0 hw [] nb5 off bf (begin_start q2) begin_size (begin_empty + (1 : Int64)) cf 16 0 [] h18 n0 Z18 O18 F22 (by decide) rfl (by decide) (by decide)) e18 (g := (mkF m 149 #[.val (.long q0), .second, .val (.int q1), .val (.long q2), .second, .val (.int q3), .val (.long q4), .second, .val (.int q5), .val (.int la), .val (.int lb), .val (.long off), .second, .val (.int oz), .val (.int hbv), .val (.int hzv), .val (.int oav), .val (.ref nb5), .unset, .unset, .unset, .unset, .unset, .unset] [(.long off), (.ref nb5)])) rfl (by rw [hml]; rfl) (argsL := [(.long off)]) (rest := []) (lenOf pd_pJrJ rfl) rfl (W := 0) (by show 2 * 0 + _ ≤ _; exact Nat.le_of_eq rfl) (hb hby at_149) (by decide) (by decide) (by decide) (by decide)
          refine own_by (st21) ?_
          show OEnds p e below s _ _ _ (T21.setTop (mkF m 152 #[.val (.long q0), .second, .val (.int q1), .val (.long q2), .second, .val (.int q3), .val (.long q4), .second, .val (.int q5), .val (.int la), .val (.int lb), .val (.long off), .second, .val (.int oz), .val (.int hbv), .val (.int hzv), .val (.int oav), .val (.ref nb5), .unset, .unset, .unset, .unset, .unset, .unset] [(.long (scanF [] (begin_start q2) (0 : Int64) off (begin_empty + (1 : Int64))))]))
          refine own_by (fun _ k => XS.lstore X21.here hx rfl (hb hby at_152) rfl (l' := #[.val (.long q0), .second, .val (.int q1), .val (.long q2), .second, .val (.int q3), .val (.long q4), .second, .val (.int q5), .val (.int la), .val (.int lb), .val (.long off), .second, .val (.int oz), .val (.int hbv), .val (.int hzv), .val (.int oav), .val (.ref nb5), .val (.long (scanF [] (begin_start q2) (0 : Int64) off (begin_empty + (1 : Int64)))), .second, .unset, .unset, .unset, .unset]) rfl k) ?_
          show OEnds p e below s _ _ _ (T21.setTop (mkF m 154 #[.val (.long q0), .second, .val (.int q1), .val (.long q2), .second, .val (.int q3), .val (.long q4), .second, .val (.int q5), .val (.int la), .val (.int lb), .val (.long off), .second, .val (.int oz), .val (.int hbv), .val (.int hzv), .val (.int oav), .val (.ref nb5), .val (.long (scanF [] (begin_start q2) (0 : Int64) off (begin_empty + (1 : Int64)))), .second, .unset, .unset, .unset, .unset] []))
          refine own_by (fun _ k => XS.lloadN X21.here hx rfl (hb hby at_154) rfl k) ?_
          show OEnds p e below s _ _ _ (T21.setTop (mkF m 155 #[.val (.long q0), .second, .val (.int q1), .val (.long q2), .second, .val (.int q3), .val (.long q4), .second, .val (.int q5), .val (.int la), .val (.int lb), .val (.long off), .second, .val (.int oz), .val (.int hbv), .val (.int hzv), .val (.int oav), .val (.ref nb5), .val (.long (scanF [] (begin_start q2) (0 : Int64) off (begin_empty + (1 : Int64)))), .second, .unset, .unset, .unset, .unset] [(.long q2)]))
          refine own_by (fun _ k => XS.lstore X21.here hx rfl (hb hby at_155) rfl (l' := #[.val (.long q0), .second, .val (.int q1), .val (.long q2), .second, .val (.int q3), .val (.long q4), .second, .val (.int q5), .val (.int la), .val (.int lb), .val (.long off), .second, .val (.int oz), .val (.int hbv), .val (.int hzv), .val (.int oav), .val (.ref nb5), .val (.long (scanF [] (begin_start q2) (0 : Int64) off (begin_empty + (1 : Int64)))), .second, .val (.long q2), .second, .unset, .unset]) rfl k) ?_
          show OEnds p e below s _ _ _ (T21.setTop (mkF m 157 #[.val (.long q0), .second, .val (.int q1), .val (.long q2), .second, .val (.int q3), .val (.long q4), .second, .val (.int q5), .val (.int la), .val (.int lb), .val (.long off), .second, .val (.int oz), .val (.int hbv), .val (.int hzv), .val (.int oav), .val (.ref nb5), .val (.long (scanF [] (begin_start q2) (0 : Int64) off (begin_empty + (1 : Int64)))), .second, .val (.long q2), .second, .unset, .unset] []))
          refine own_by (fun _ k => XS.lconst X21.here hx rfl (hb hby at_157) k) ?_
          show OEnds p e below s _ _ _ (T21.setTop (mkF m 158 #[.val (.long q0), .second, .val (.int q1), .val (.long q2), .second, .val (.int q3), .val (.long q4), .second, .val (.int q5), .val (.int la), .val (.int lb), .val (.long off), .second, .val (.int oz), .val (.int hbv), .val (.int hzv), .val (.int oav), .val (.ref nb5), .val (.long (scanF [] (begin_start q2) (0 : Int64) off (begin_empty + (1 : Int64)))), .second, .val (.long q2), .second, .unset, .unset] [(.long (0 : Int64))]))
          refine own_by (fun _ k => XS.lstore X21.here hx rfl (hb hby at_158) rfl (l' := #[.val (.long q0), .second, .val (.int q1), .val (.long q2), .second, .val (.int q3), .val (.long q4), .second, .val (.int q5), .val (.int la), .val (.int lb), .val (.long off), .second, .val (.int oz), .val (.int hbv), .val (.int hzv), .val (.int oav), .val (.ref nb5), .val (.long (scanF [] (begin_start q2) (0 : Int64) off (begin_empty + (1 : Int64)))), .second, .val (.long q2), .second, .val (.long (0 : Int64)), .second]) rfl k) ?_
          show OEnds p e below s _ _ _ (T21.setTop (mkF m 160 #[.val (.long q0), .second, .val (.int q1), .val (.long q2), .second, .val (.int q3), .val (.long q4), .second, .val (.int q5), .val (.int la), .val (.int lb), .val (.long off), .second, .val (.int oz), .val (.int hbv), .val (.int hzv), .val (.int oav), .val (.ref nb5), .val (.long (scanF [] (begin_start q2) (0 : Int64) off (begin_empty + (1 : Int64)))), .second, .val (.long q2), .second, .val (.long (0 : Int64)), .second] []))
          refine own_by (fun _ k => XS.iload X21.here hx rfl (hb hby at_160) rfl k) ?_
          show OEnds p e below s _ _ _ (T21.setTop (mkF m 162 #[.val (.long q0), .second, .val (.int q1), .val (.long q2), .second, .val (.int q3), .val (.long q4), .second, .val (.int q5), .val (.int la), .val (.int lb), .val (.long off), .second, .val (.int oz), .val (.int hbv), .val (.int hzv), .val (.int oav), .val (.ref nb5), .val (.long (scanF [] (begin_start q2) (0 : Int64) off (begin_empty + (1 : Int64)))), .second, .val (.long q2), .second, .val (.long (0 : Int64)), .second] [(.int hbv)]))
          refine own_by (fun _ k => XS.ifNo X21.here hx rfl (hb hby at_162) rfl ((if0 _ _).trans (feq hc124_9).1) k) ?_
          show OEnds p e below s _ _ _ (T21.setTop (mkF m 165 #[.val (.long q0), .second, .val (.int q1), .val (.long q2), .second, .val (.int q3), .val (.long q4), .second, .val (.int q5), .val (.int la), .val (.int lb), .val (.long off), .second, .val (.int oz), .val (.int hbv), .val (.int hzv), .val (.int oav), .val (.ref nb5), .val (.long (scanF [] (begin_start q2) (0 : Int64) off (begin_empty + (1 : Int64)))), .second, .val (.long q2), .second, .val (.long (0 : Int64)), .second] []))
          refine own_by (fun _ k => XS.iload X21.here hx rfl (hb hby at_165) rfl k) ?_
          show OEnds p e below s _ _ _ (T21.setTop (mkF m 167 #[.val (.long q0), .second, .val (.int q1), .val (.long q2), .second, .val (.int q3), .val (.long q4), .second, .val (.int q5), .val (.int la), .val (.int lb), .val (.long off), .second, .val (.int oz), .val (.int hbv), .val (.int hzv), .val (.int oav), .val (.ref nb5), .val (.long (scanF [] (begin_start q2) (0 : Int64) off (begin_empty + (1 : Int64)))), .second, .val (.long q2), .second, .val (.long (0 : Int64)), .second] [(.int lb)]))
          refine own_by (fun _ k => XS.ifNo X21.here hx rfl (hb hby at_167) rfl ((if0 _ _).trans (teq hz17).2) k) ?_
          show OEnds p e below s _ _ _ (T21.setTop (mkF m 170 #[.val (.long q0), .second, .val (.int q1), .val (.long q2), .second, .val (.int q3), .val (.long q4), .second, .val (.int q5), .val (.int la), .val (.int lb), .val (.long off), .second, .val (.int oz), .val (.int hbv), .val (.int hzv), .val (.int oav), .val (.ref nb5), .val (.long (scanF [] (begin_start q2) (0 : Int64) off (begin_empty + (1 : Int64)))), .second, .val (.long q2), .second, .val (.long (0 : Int64)), .second] []))
          refine own_by (fun _ k => XS.lconst X21.here hx rfl (hb hby at_170) k) ?_
          show OEnds p e below s _ _ _ (T21.setTop (mkF m 171 #[.val (.long q0), .second, .val (.int q1), .val (.long q2), .second, .val (.int q3), .val (.long q4), .second, .val (.int q5), .val (.int la), .val (.int lb), .val (.long off), .second, .val (.int oz), .val (.int hbv), .val (.int hzv), .val (.int oav), .val (.ref nb5), .val (.long (scanF [] (begin_start q2) (0 : Int64) off (begin_empty + (1 : Int64)))), .second, .val (.long q2), .second, .val (.long (0 : Int64)), .second] [(.long (1 : Int64))]))
          refine own_by (fun _ k => XS.lstore X21.here hx rfl (hb hby at_171) rfl (l' := #[.val (.long q0), .second, .val (.int q1), .val (.long q2), .second, .val (.int q3), .val (.long q4), .second, .val (.int q5), .val (.int la), .val (.int lb), .val (.long off), .second, .val (.int oz), .val (.int hbv), .val (.int hzv), .val (.int oav), .val (.ref nb5), .val (.long (scanF [] (begin_start q2) (0 : Int64) off (begin_empty + (1 : Int64)))), .second, .val (.long q2), .second, .val (.long (1 : Int64)), .second]) rfl k) ?_
          show OEnds p e below s _ _ _ (T21.setTop (mkF m 173 #[.val (.long q0), .second, .val (.int q1), .val (.long q2), .second, .val (.int q3), .val (.long q4), .second, .val (.int q5), .val (.int la), .val (.int lb), .val (.long off), .second, .val (.int oz), .val (.int hbv), .val (.int hzv), .val (.int oav), .val (.ref nb5), .val (.long (scanF [] (begin_start q2) (0 : Int64) off (begin_empty + (1 : Int64)))), .second, .val (.long q2), .second, .val (.long (1 : Int64)), .second] []))
          refine own_by (fun _ k => XS.goto X21.here hx rfl (pc0 := 173) (pc' := 216) rfl (hb hby at_173) (by decide) (by decide) k) ?_
          show OEnds p e below s _ _ _ (T21.setTop (mkF m 216 #[.val (.long q0), .second, .val (.int q1), .val (.long q2), .second, .val (.int q3), .val (.long q4), .second, .val (.int q5), .val (.int la), .val (.int lb), .val (.long off), .second, .val (.int oz), .val (.int hbv), .val (.int hzv), .val (.int oav), .val (.ref nb5), .val (.long (scanF [] (begin_start q2) (0 : Int64) off (begin_empty + (1 : Int64)))), .second, .val (.long q2), .second, .val (.long (1 : Int64)), .second] []))
          refine own_by (fun _ k => XS.iload X21.here hx rfl (hb hby at_216) rfl k) ?_
          show OEnds p e below s _ _ _ (T21.setTop (mkF m 218 #[.val (.long q0), .second, .val (.int q1), .val (.long q2), .second, .val (.int q3), .val (.long q4), .second, .val (.int q5), .val (.int la), .val (.int lb), .val (.long off), .second, .val (.int oz), .val (.int hbv), .val (.int hzv), .val (.int oav), .val (.ref nb5), .val (.long (scanF [] (begin_start q2) (0 : Int64) off (begin_empty + (1 : Int64)))), .second, .val (.long q2), .second, .val (.long (1 : Int64)), .second] [(.int hzv)]))
          refine own_by (fun _ k => XS.ifYes X21.here hx rfl (pc0 := 218) (pc' := 227) rfl (hb hby at_218) rfl ((if0 _ _).trans (teq hc136_20).1) (by decide) (by decide) k) ?_
          show OEnds p e below s _ _ _ (T21.setTop (mkF m 227 #[.val (.long q0), .second, .val (.int q1), .val (.long q2), .second, .val (.int q3), .val (.long q4), .second, .val (.int q5), .val (.int la), .val (.int lb), .val (.long off), .second, .val (.int oz), .val (.int hbv), .val (.int hzv), .val (.int oav), .val (.ref nb5), .val (.long (scanF [] (begin_start q2) (0 : Int64) off (begin_empty + (1 : Int64)))), .second, .val (.long q2), .second, .val (.long (1 : Int64)), .second] []))
          refine own_by (fun _ k => XS.lload X21.here hx rfl (hb hby at_227) rfl k) ?_
          show OEnds p e below s _ _ _ (T21.setTop (mkF m 229 #[.val (.long q0), .second, .val (.int q1), .val (.long q2), .second, .val (.int q3), .val (.long q4), .second, .val (.int q5), .val (.int la), .val (.int lb), .val (.long off), .second, .val (.int oz), .val (.int hbv), .val (.int hzv), .val (.int oav), .val (.ref nb5), .val (.long (scanF [] (begin_start q2) (0 : Int64) off (begin_empty + (1 : Int64)))), .second, .val (.long q2), .second, .val (.long (1 : Int64)), .second] [(.long (scanF [] (begin_start q2) (0 : Int64) off (begin_empty + (1 : Int64))))]))
          refine own_by (fun _ k => XS.lload X21.here hx rfl (hb hby at_229) rfl k) ?_
          show OEnds p e below s _ _ _ (T21.setTop (mkF m 231 #[.val (.long q0), .second, .val (.int q1), .val (.long q2), .second, .val (.int q3), .val (.long q4), .second, .val (.int q5), .val (.int la), .val (.int lb), .val (.long off), .second, .val (.int oz), .val (.int hbv), .val (.int hzv), .val (.int oav), .val (.ref nb5), .val (.long (scanF [] (begin_start q2) (0 : Int64) off (begin_empty + (1 : Int64)))), .second, .val (.long q2), .second, .val (.long (1 : Int64)), .second] [(.long q2), (.long (scanF [] (begin_start q2) (0 : Int64) off (begin_empty + (1 : Int64))))]))
          refine own_by (X21.ldc2Long hx hown (mvT hZ (hw _ (List.mem_of_getElem? (i := 36) rfl))) (g := (mkF m 231 #[.val (.long q0), .second, .val (.int q1), .val (.long q2), .second, .val (.int q3), .val (.long q4), .second, .val (.int q5), .val (.int la), .val (.int lb), .val (.long off), .second, .val (.int oz), .val (.int hbv), .val (.int hzv), .val (.int oav), .val (.ref nb5), .val (.long (scanF [] (begin_start q2) (0 : Int64) off (begin_empty + (1 : Int64)))), .second, .val (.long q2), .second, .val (.long (1 : Int64)), .second] [(.long q2), (.long (scanF [] (begin_start q2) (0 : Int64) off (begin_empty + (1 : Int64))))])) rfl (hb hby at_231)) ?_
          show OEnds p e below s _ _ _ (T21.setTop (mkF m 234 #[.val (.long q0), .second, .val (.int q1), .val (.long q2), .second, .val (.int q3), .val (.long q4), .second, .val (.int q5), .val (.int la), .val (.int lb), .val (.long off), .second, .val (.int oz), .val (.int hbv), .val (.int hzv), .val (.int oav), .val (.ref nb5), .val (.long (scanF [] (begin_start q2) (0 : Int64) off (begin_empty + (1 : Int64)))), .second, .val (.long q2), .second, .val (.long (1 : Int64)), .second] [(.long (4 : Int64)), (.long q2), (.long (scanF [] (begin_start q2) (0 : Int64) off (begin_empty + (1 : Int64))))]))
          refine own_by (fun _ k => XS.lload X21.here hx rfl (hb hby at_234) rfl k) ?_
          show OEnds p e below s _ _ _ (T21.setTop (mkF m 236 #[.val (.long q0), .second, .val (.int q1), .val (.long q2), .second, .val (.int q3), .val (.long q4), .second, .val (.int q5), .val (.int la), .val (.int lb), .val (.long off), .second, .val (.int oz), .val (.int hbv), .val (.int hzv), .val (.int oav), .val (.ref nb5), .val (.long (scanF [] (begin_start q2) (0 : Int64) off (begin_empty + (1 : Int64)))), .second, .val (.long q2), .second, .val (.long (1 : Int64)), .second] [(.long (1 : Int64)), (.long (4 : Int64)), (.long q2), (.long (scanF [] (begin_start q2) (0 : Int64) off (begin_empty + (1 : Int64))))]))
          refine own_by (fun _ k => XS.lmul X21.here hx rfl (hb hby at_236) rfl k) ?_
          show OEnds p e below s _ _ _ (T21.setTop (mkF m 237 #[.val (.long q0), .second, .val (.int q1), .val (.long q2), .second, .val (.int q3), .val (.long q4), .second, .val (.int q5), .val (.int la), .val (.int lb), .val (.long off), .second, .val (.int oz), .val (.int hbv), .val (.int hzv), .val (.int oav), .val (.ref nb5), .val (.long (scanF [] (begin_start q2) (0 : Int64) off (begin_empty + (1 : Int64)))), .second, .val (.long q2), .second, .val (.long (1 : Int64)), .second] [(.long (4 : Int64)), (.long q2), (.long (scanF [] (begin_start q2) (0 : Int64) off (begin_empty + (1 : Int64))))]))
          refine own_by (fun _ k => XS.ladd X21.here hx rfl (hb hby at_237) rfl k) ?_
          show OEnds p e below s _ _ _ (T21.setTop (mkF m 238 #[.val (.long q0), .second, .val (.int q1), .val (.long q2), .second, .val (.int q3), .val (.long q4), .second, .val (.int q5), .val (.int la), .val (.int lb), .val (.long off), .second, .val (.int oz), .val (.int hbv), .val (.int hzv), .val (.int oav), .val (.ref nb5), .val (.long (scanF [] (begin_start q2) (0 : Int64) off (begin_empty + (1 : Int64)))), .second, .val (.long q2), .second, .val (.long (1 : Int64)), .second] [(.long (q2 + (4 : Int64))), (.long (scanF [] (begin_start q2) (0 : Int64) off (begin_empty + (1 : Int64))))]))
          refine own_by (fun _ k => XS.lcmp X21.here hx rfl (hb hby at_238) rfl k) ?_
          show OEnds p e below s _ _ _ (T21.setTop (mkF m 239 #[.val (.long q0), .second, .val (.int q1), .val (.long q2), .second, .val (.int q3), .val (.long q4), .second, .val (.int q5), .val (.int la), .val (.int lb), .val (.long off), .second, .val (.int oz), .val (.int hbv), .val (.int hzv), .val (.int oav), .val (.ref nb5), .val (.long (scanF [] (begin_start q2) (0 : Int64) off (begin_empty + (1 : Int64)))), .second, .val (.long q2), .second, .val (.long (1 : Int64)), .second] [(.int (lcmpW (scanF [] (begin_start q2) (0 : Int64) off (begin_empty + (1 : Int64))) (q2 + (4 : Int64))))]))
          refine own_by (fun _ k => XS.ifNo X21.here hx rfl (hb hby at_239) rfl ((if0 _ _).trans (teq ((lw_eq _ _).mpr (pl_nil (by decide)))).2) k) ?_
          show OEnds p e below s _ _ _ (T21.setTop (mkF m 242 #[.val (.long q0), .second, .val (.int q1), .val (.long q2), .second, .val (.int q3), .val (.long q4), .second, .val (.int q5), .val (.int la), .val (.int lb), .val (.long off), .second, .val (.int oz), .val (.int hbv), .val (.int hzv), .val (.int oav), .val (.ref nb5), .val (.long (scanF [] (begin_start q2) (0 : Int64) off (begin_empty + (1 : Int64)))), .second, .val (.long q2), .second, .val (.long (1 : Int64)), .second] []))
          refine own_by (fun _ k => XS.iconst X21.here hx rfl (hb hby at_242) k) ?_
          show OEnds p e below s _ _ _ (T21.setTop (mkF m 243 #[.val (.long q0), .second, .val (.int q1), .val (.long q2), .second, .val (.int q3), .val (.long q4), .second, .val (.int q5), .val (.int la), .val (.int lb), .val (.long off), .second, .val (.int oz), .val (.int hbv), .val (.int hzv), .val (.int oav), .val (.ref nb5), .val (.long (scanF [] (begin_start q2) (0 : Int64) off (begin_empty + (1 : Int64)))), .second, .val (.long q2), .second, .val (.long (1 : Int64)), .second] [(.int (1 : Int32))]))
          refine own_by (fun _ k => XS.goto X21.here hx rfl (pc0 := 243) (pc' := 247) rfl (hb hby at_243) (by decide) (by decide) k) ?_
          show OEnds p e below s _ _ _ (T21.setTop (mkF m 247 #[.val (.long q0), .second, .val (.int q1), .val (.long q2), .second, .val (.int q3), .val (.long q4), .second, .val (.int q5), .val (.int la), .val (.int lb), .val (.long off), .second, .val (.int oz), .val (.int hbv), .val (.int hzv), .val (.int oav), .val (.ref nb5), .val (.long (scanF [] (begin_start q2) (0 : Int64) off (begin_empty + (1 : Int64)))), .second, .val (.long q2), .second, .val (.long (1 : Int64)), .second] [(.int (1 : Int32))]))
          exact own_retN X21 hx hlk .boolean (by simp) Bd.returns (hb hby at_247) ⟨rfl, N18⟩ (by decide) (by decide)
        · refine own_by (fun _ k => XS.ifNo X18.here hx rfl (hb hby at_136) rfl ((if0 _ _).trans (feq hc136_20).1) k) ?_
          show OEnds p e below s _ _ _ (T18.setTop (mkF m 139 #[.val (.long q0), .second, .val (.int q1), .val (.long q2), .second, .val (.int q3), .val (.long q4), .second, .val (.int q5), .val (.int la), .val (.int lb), .val (.long off), .second, .val (.int oz), .val (.int hbv), .val (.int hzv), .val (.int oav), .val (.ref nb5), .unset, .unset, .unset, .unset, .unset, .unset] []))
          refine own_by (fun _ k => XS.aload X18.here hx rfl (hb hby at_139) rfl rfl k) ?_
          show OEnds p e below s _ _ _ (T18.setTop (mkF m 141 #[.val (.long q0), .second, .val (.int q1), .val (.long q2), .second, .val (.int q3), .val (.long q4), .second, .val (.int q5), .val (.int la), .val (.int lb), .val (.long off), .second, .val (.int oz), .val (.int hbv), .val (.int hzv), .val (.int oav), .val (.ref nb5), .unset, .unset, .unset, .unset, .unset, .unset] [(.ref nb5)]))
          refine own_by (fun _ k => XS.iconst X18.here hx rfl (hb hby at_141) k) ?_
          show OEnds p e below s _ _ _ (T18.setTop (mkF m 142 #[.val (.long q0), .second, .val (.int q1), .val (.long q2), .second, .val (.int q3), .val (.long q4), .second, .val (.int q5), .val (.int la), .val (.int lb), .val (.long off), .second, .val (.int oz), .val (.int hbv), .val (.int hzv), .val (.int oav), .val (.ref nb5), .unset, .unset, .unset, .unset, .unset, .unset] [(.int (0 : Int32)), (.ref nb5)]))
          obtain ⟨v23, T23, L23, h23, X23, e23, hQ23, st23⟩ := own_callV X18 hx hZ (y := (⟨"com/example/fourfold/fourfold/xdr/FragmentMap", "add", "(I)V"⟩ : MethodName)) hown (hw _ (List.mem_of_getElem? (i := 25) rfl)) (hw _ (List.mem_of_getElem? (i := 26) rfl)) (hw _ (List.mem_of_getElem? (i := 28) rfl)) (hw _ (List.mem_of_getElem? (i := 27) rfl)) (hw _ (List.mem_of_getElem? (i := 29) rfl)) (hw _ (List.mem_of_getElem? (i := 4) rfl)) (by decide) O18.exa (rm_addZ l Z a0 hw [] nb5 (0 : Int32) bf (begin_start q2) begin_size (begin_empty + (1 : Int64)) h18 n0 Z18 O18 g_nb5 rfl) e18 (g := (mkF m 142 #[.val (.long q0), .second, .val (.int q1), .val (.long q2), .second, .val (.int q3), .val (.long q4), .second, .val (.int q5), .val (.int la), .val (.int lb), .val (.long off), .second, .val (.int oz), .val (.int hbv), .val (.int hzv), .val (.int oav), .val (.ref nb5), .unset, .unset, .unset, .unset, .unset, .unset] [(.int (0 : Int32)), (.ref nb5)])) rfl (by rw [hml]; rfl) (argsL := [(.int (0 : Int32))]) (rest := []) (lenOf pd_pIrV rfl) rfl (W := 0) (by show 2 * 0 + _ ≤ _; exact Nat.le_of_eq rfl) (hb hby at_142) (by decide) (by decide) (by decide) (by decide)
          obtain ⟨rfl, Nq23, Kq23, O23⟩ := hQ23
          have F24 : FA Z h18 bf .byte 16 (fun i => .int (cf i)) := (F19.keep Kq18 (ninS (Ne.symm (O8.ne_fa (hw _ (List.mem_of_getElem? (i := 3) rfl)) F19)) nin0))
          have N23 := Fr.app N18 Nq23
          have Z23 : n0 ≤ h23.size := Nat.le_trans Z18 Kq23.1
          refine own_tr st23 ?_
          show OEnds p e below s _ _ _ (T23.setTop (mkF m 145 #[.val (.long q0), .second, .val (.int q1), .val (.long q2), .second, .val (.int q3), .val (.long q4), .second, .val (.int q5), .val (.int la), .val (.int lb), .val (.long off), .second, .val (.int oz), .val (.int hbv), .val (.int hzv), .val (.int oav), .val (.ref nb5), .unset, .unset, .unset, .unset, .unset, .unset] []))
          refine own_by (fun _ k => XS.aload X23.here hx rfl (hb hby at_145) rfl rfl k) ?_
          show OEnds p e below s _ _ _ (T23.setTop (mkF m 147 #[.val (.long q0), .second, .val (.int q1), .val (.long q2), .second, .val (.int q3), .val (.long q4), .second, .val (.int q5), .val (.int la), .val (.int lb), .val (.long off), .second, .val (.int oz), .val (.int hbv), .val (.int hzv), .val (.int oav), .val (.ref nb5), .unset, .unset, .unset, .unset, .unset, .unset] [(.ref nb5)]))
          refine own_by (fun _ k => XS.lload X23.here hx rfl (hb hby at_147) rfl k) ?_
          show OEnds p e below s _ _ _ (T23.setTop (mkF m 149 #[.val (.long q0), .second, .val (.int q1), .val (.long q2), .second, .val (.int q3), .val (.long q4), .second, .val (.int q5), .val (.int la), .val (.int lb), .val (.long off), .second, .val (.int oz), .val (.int hbv), .val (.int hzv), .val (.int oav), .val (.ref nb5), .unset, .unset, .unset, .unset, .unset, .unset] [(.long off), (.ref nb5)]))
          have F26 : FA Z h23 bf .byte 16 (fun i => .int (cf i)) := (F24.keep Kq23 (ninS (Ne.symm (O18.ne_fa (hw _ (List.mem_of_getElem? (i := 3) rfl)) F24)) nin0))
          obtain ⟨T25, X25, e25, st25⟩ := own_callR X23 hx hZ (y := (⟨"com/example/fourfold/fourfold/xdr/FragmentMap", "inStream", "(J)J"⟩ : MethodName)) hown (hw _ (List.mem_of_getElem? (i := 30) rfl)) (hw _ (List.mem_of_getElem? (i := 31) rfl)) (hw _ (List.mem_of_getElem? (i := 33) rfl)) (hw _ (List.mem_of_getElem? (i := 32) rfl)) (hw _ (List.mem_of_getElem? (i := 34) rfl)) (hw _ (List.mem_of_getElem? (i := 4) rfl)) (by decide) O23.exa (rm_inStream l Z a0 hw [] nb5 off bf (begin_start q2) begin_size ((begin_empty + (1 : Int64)) + (1 : Int64)) cf 16 0 [] h23 n0 Z23 O23 F26 (by decide) rfl (by decide) (by decide)) e23 (g := (mkF m 149 #[.val (.long q0), .second, .val (.int q1), .val (.long q2), .second, .val (.int q3), .val (.long q4), .second, .val (.int q5), .val (.int la), .val (.int lb), .val (.long off), .second, .val (.int oz), .val (.int hbv), .val (.int hzv), .val (.int oav), .val (.ref nb5), .unset, .unset, .unset, .unset, .unset, .unset] [(.long off), (.ref nb5)])) rfl (by rw [hml]; rfl) (argsL := [(.long off)]) (rest := []) (lenOf pd_pJrJ rfl) rfl (W := 0) (by show 2 * 0 + _ ≤ _; exact Nat.le_of_eq rfl) (hb hby at_149) (by decide) (by decide) (by decide) (by decide)
          refine own_by (st25) ?_
          show OEnds p e below s _ _ _ (T25.setTop (mkF m 152 #[.val (.long q0), .second, .val (.int q1), .val (.long q2), .second, .val (.int q3), .val (.long q4), .second, .val (.int q5), .val (.int la), .val (.int lb), .val (.long off), .second, .val (.int oz), .val (.int hbv), .val (.int hzv), .val (.int oav), .val (.ref nb5), .unset, .unset, .unset, .unset, .unset, .unset] [(.long (scanF [] (begin_start q2) (0 : Int64) off ((begin_empty + (1 : Int64)) + (1 : Int64))))]))
          refine own_by (fun _ k => XS.lstore X25.here hx rfl (hb hby at_152) rfl (l' := #[.val (.long q0), .second, .val (.int q1), .val (.long q2), .second, .val (.int q3), .val (.long q4), .second, .val (.int q5), .val (.int la), .val (.int lb), .val (.long off), .second, .val (.int oz), .val (.int hbv), .val (.int hzv), .val (.int oav), .val (.ref nb5), .val (.long (scanF [] (begin_start q2) (0 : Int64) off ((begin_empty + (1 : Int64)) + (1 : Int64)))), .second, .unset, .unset, .unset, .unset]) rfl k) ?_
          show OEnds p e below s _ _ _ (T25.setTop (mkF m 154 #[.val (.long q0), .second, .val (.int q1), .val (.long q2), .second, .val (.int q3), .val (.long q4), .second, .val (.int q5), .val (.int la), .val (.int lb), .val (.long off), .second, .val (.int oz), .val (.int hbv), .val (.int hzv), .val (.int oav), .val (.ref nb5), .val (.long (scanF [] (begin_start q2) (0 : Int64) off ((begin_empty + (1 : Int64)) + (1 : Int64)))), .second, .unset, .unset, .unset, .unset] []))
          refine own_by (fun _ k => XS.lloadN X25.here hx rfl (hb hby at_154) rfl k) ?_
          show OEnds p e below s _ _ _ (T25.setTop (mkF m 155 #[.val (.long q0), .second, .val (.int q1), .val (.long q2), .second, .val (.int q3), .val (.long q4), .second, .val (.int q5), .val (.int la), .val (.int lb), .val (.long off), .second, .val (.int oz), .val (.int hbv), .val (.int hzv), .val (.int oav), .val (.ref nb5), .val (.long (scanF [] (begin_start q2) (0 : Int64) off ((begin_empty + (1 : Int64)) + (1 : Int64)))), .second, .unset, .unset, .unset, .unset] [(.long q2)]))
          refine own_by (fun _ k => XS.lstore X25.here hx rfl (hb hby at_155) rfl (l' := #[.val (.long q0), .second, .val (.int q1), .val (.long q2), .second, .val (.int q3), .val (.long q4), .second, .val (.int q5), .val (.int la), .val (.int lb), .val (.long off), .second, .val (.int oz), .val (.int hbv), .val (.int hzv), .val (.int oav), .val (.ref nb5), .val (.long (scanF [] (begin_start q2) (0 : Int64) off ((begin_empty + (1 : Int64)) + (1 : Int64)))), .second, .val (.long q2), .second, .unset, .unset]) rfl k) ?_
          show OEnds p e below s _ _ _ (T25.setTop (mkF m 157 #[.val (.long q0), .second, .val (.int q1), .val (.long q2), .second, .val (.int q3), .val (.long q4), .second, .val (.int q5), .val (.int la), .val (.int lb), .val (.long off), .second, .val (.int oz), .val (.int hbv), .val (.int hzv), .val (.int oav), .val (.ref nb5), .val (.long (scanF [] (begin_start q2) (0 : Int64) off ((begin_empty + (1 : Int64)) + (1 : Int64)))), .second, .val (.long q2), .second, .unset, .unset] []))
          refine own_by (fun _ k => XS.lconst X25.here hx rfl (hb hby at_157) k) ?_
          show OEnds p e below s _ _ _ (T25.setTop (mkF m 158 #[.val (.long q0), .second, .val (.int q1), .val (.long q2), .second, .val (.int q3), .val (.long q4), .second, .val (.int q5), .val (.int la), .val (.int lb), .val (.long off), .second, .val (.int oz), .val (.int hbv), .val (.int hzv), .val (.int oav), .val (.ref nb5), .val (.long (scanF [] (begin_start q2) (0 : Int64) off ((begin_empty + (1 : Int64)) + (1 : Int64)))), .second, .val (.long q2), .second, .unset, .unset] [(.long (0 : Int64))]))
          refine own_by (fun _ k => XS.lstore X25.here hx rfl (hb hby at_158) rfl (l' := #[.val (.long q0), .second, .val (.int q1), .val (.long q2), .second, .val (.int q3), .val (.long q4), .second, .val (.int q5), .val (.int la), .val (.int lb), .val (.long off), .second, .val (.int oz), .val (.int hbv), .val (.int hzv), .val (.int oav), .val (.ref nb5), .val (.long (scanF [] (begin_start q2) (0 : Int64) off ((begin_empty + (1 : Int64)) + (1 : Int64)))), .second, .val (.long q2), .second, .val (.long (0 : Int64)), .second]) rfl k) ?_
          show OEnds p e below s _ _ _ (T25.setTop (mkF m 160 #[.val (.long q0), .second, .val (.int q1), .val (.long q2), .second, .val (.int q3), .val (.long q4), .second, .val (.int q5), .val (.int la), .val (.int lb), .val (.long off), .second, .val (.int oz), .val (.int hbv), .val (.int hzv), .val (.int oav), .val (.ref nb5), .val (.long (scanF [] (begin_start q2) (0 : Int64) off ((begin_empty + (1 : Int64)) + (1 : Int64)))), .second, .val (.long q2), .second, .val (.long (0 : Int64)), .second] []))
          refine own_by (fun _ k => XS.iload X25.here hx rfl (hb hby at_160) rfl k) ?_
          show OEnds p e below s _ _ _ (T25.setTop (mkF m 162 #[.val (.long q0), .second, .val (.int q1), .val (.long q2), .second, .val (.int q3), .val (.long q4), .second, .val (.int q5), .val (.int la), .val (.int lb), .val (.long off), .second, .val (.int oz), .val (.int hbv), .val (.int hzv), .val (.int oav), .val (.ref nb5), .val (.long (scanF [] (begin_start q2) (0 : Int64) off ((begin_empty + (1 : Int64)) + (1 : Int64)))), .second, .val (.long q2), .second, .val (.long (0 : Int64)), .second] [(.int hbv)]))
          refine own_by (fun _ k => XS.ifNo X25.here hx rfl (hb hby at_162) rfl ((if0 _ _).trans (feq hc124_9).1) k) ?_
          show OEnds p e below s _ _ _ (T25.setTop (mkF m 165 #[.val (.long q0), .second, .val (.int q1), .val (.long q2), .second, .val (.int q3), .val (.long q4), .second, .val (.int q5), .val (.int la), .val (.int lb), .val (.long off), .second, .val (.int oz), .val (.int hbv), .val (.int hzv), .val (.int oav), .val (.ref nb5), .val (.long (scanF [] (begin_start q2) (0 : Int64) off ((begin_empty + (1 : Int64)) + (1 : Int64)))), .second, .val (.long q2), .second, .val (.long (0 : Int64)), .second] []))
          refine own_by (fun _ k => XS.iload X25.here hx rfl (hb hby at_165) rfl k) ?_
          show OEnds p e below s _ _ _ (T25.setTop (mkF m 167 #[.val (.long q0), .second, .val (.int q1), .val (.long q2), .second, .val (.int q3), .val (.long q4), .second, .val (.int q5), .val (.int la), .val (.int lb), .val (.long off), .second, .val (.int oz), .val (.int hbv), .val (.int hzv), .val (.int oav), .val (.ref nb5), .val (.long (scanF [] (begin_start q2) (0 : Int64) off ((begin_empty + (1 : Int64)) + (1 : Int64)))), .second, .val (.long q2), .second, .val (.long (0 : Int64)), .second] [(.int lb)]))
          refine own_by (fun _ k => XS.ifNo X25.here hx rfl (hb hby at_167) rfl ((if0 _ _).trans (teq hz17).2) k) ?_
          show OEnds p e below s _ _ _ (T25.setTop (mkF m 170 #[.val (.long q0), .second, .val (.int q1), .val (.long q2), .second, .val (.int q3), .val (.long q4), .second, .val (.int q5), .val (.int la), .val (.int lb), .val (.long off), .second, .val (.int oz), .val (.int hbv), .val (.int hzv), .val (.int oav), .val (.ref nb5), .val (.long (scanF [] (begin_start q2) (0 : Int64) off ((begin_empty + (1 : Int64)) + (1 : Int64)))), .second, .val (.long q2), .second, .val (.long (0 : Int64)), .second] []))
          refine own_by (fun _ k => XS.lconst X25.here hx rfl (hb hby at_170) k) ?_
          show OEnds p e below s _ _ _ (T25.setTop (mkF m 171 #[.val (.long q0), .second, .val (.int q1), .val (.long q2), .second, .val (.int q3), .val (.long q4), .second, .val (.int q5), .val (.int la), .val (.int lb), .val (.long off), .second, .val (.int oz), .val (.int hbv), .val (.int hzv), .val (.int oav), .val (.ref nb5), .val (.long (scanF [] (begin_start q2) (0 : Int64) off ((begin_empty + (1 : Int64)) + (1 : Int64)))), .second, .val (.long q2), .second, .val (.long (0 : Int64)), .second] [(.long (1 : Int64))]))
          refine own_by (fun _ k => XS.lstore X25.here hx rfl (hb hby at_171) rfl (l' := #[.val (.long q0), .second, .val (.int q1), .val (.long q2), .second, .val (.int q3), .val (.long q4), .second, .val (.int q5), .val (.int la), .val (.int lb), .val (.long off), .second, .val (.int oz), .val (.int hbv), .val (.int hzv), .val (.int oav), .val (.ref nb5), .val (.long (scanF [] (begin_start q2) (0 : Int64) off ((begin_empty + (1 : Int64)) + (1 : Int64)))), .second, .val (.long q2), .second, .val (.long (1 : Int64)), .second]) rfl k) ?_
          show OEnds p e below s _ _ _ (T25.setTop (mkF m 173 #[.val (.long q0), .second, .val (.int q1), .val (.long q2), .second, .val (.int q3), .val (.long q4), .second, .val (.int q5), .val (.int la), .val (.int lb), .val (.long off), .second, .val (.int oz), .val (.int hbv), .val (.int hzv), .val (.int oav), .val (.ref nb5), .val (.long (scanF [] (begin_start q2) (0 : Int64) off ((begin_empty + (1 : Int64)) + (1 : Int64)))), .second, .val (.long q2), .second, .val (.long (1 : Int64)), .second] []))
          refine own_by (fun _ k => XS.goto X25.here hx rfl (pc0 := 173) (pc' := 216) rfl (hb hby at_173) (by decide) (by decide) k) ?_
          show OEnds p e below s _ _ _ (T25.setTop (mkF m 216 #[.val (.long q0), .second, .val (.int q1), .val (.long q2), .second, .val (.int q3), .val (.long q4), .second, .val (.int q5), .val (.int la), .val (.int lb), .val (.long off), .second, .val (.int oz), .val (.int hbv), .val (.int hzv), .val (.int oav), .val (.ref nb5), .val (.long (scanF [] (begin_start q2) (0 : Int64) off ((begin_empty + (1 : Int64)) + (1 : Int64)))), .second, .val (.long q2), .second, .val (.long (1 : Int64)), .second] []))
          refine own_by (fun _ k => XS.iload X25.here hx rfl (hb hby at_216) rfl k) ?_
          show OEnds p e below s _ _ _ (T25.setTop (mkF m 218 #[.val (.long q0), .second, .val (.int q1), .val (.long q2), .second, .val (.int q3), .val (.long q4), .second, .val (.int q5), .val (.int la), .val (.int lb), .val (.long off), .second, .val (.int oz), .val (.int hbv), .val (.int hzv), .val (.int oav), .val (.ref nb5), .val (.long (scanF [] (begin_start q2) (0 : Int64) off ((begin_empty + (1 : Int64)) + (1 : Int64)))), .second, .val (.long q2), .second, .val (.long (1 : Int64)), .second] [(.int hzv)]))
          refine own_by (fun _ k => XS.ifNo X25.here hx rfl (hb hby at_218) rfl ((if0 _ _).trans (feq hc136_20).1) k) ?_
          show OEnds p e below s _ _ _ (T25.setTop (mkF m 221 #[.val (.long q0), .second, .val (.int q1), .val (.long q2), .second, .val (.int q3), .val (.long q4), .second, .val (.int q5), .val (.int la), .val (.int lb), .val (.long off), .second, .val (.int oz), .val (.int hbv), .val (.int hzv), .val (.int oav), .val (.ref nb5), .val (.long (scanF [] (begin_start q2) (0 : Int64) off ((begin_empty + (1 : Int64)) + (1 : Int64)))), .second, .val (.long q2), .second, .val (.long (1 : Int64)), .second] []))
          refine own_by (fun _ k => XS.lload X25.here hx rfl (hb hby at_221) rfl k) ?_
          show OEnds p e below s _ _ _ (T25.setTop (mkF m 223 #[.val (.long q0), .second, .val (.int q1), .val (.long q2), .second, .val (.int q3), .val (.long q4), .second, .val (.int q5), .val (.int la), .val (.int lb), .val (.long off), .second, .val (.int oz), .val (.int hbv), .val (.int hzv), .val (.int oav), .val (.ref nb5), .val (.long (scanF [] (begin_start q2) (0 : Int64) off ((begin_empty + (1 : Int64)) + (1 : Int64)))), .second, .val (.long q2), .second, .val (.long (1 : Int64)), .second] [(.long (1 : Int64))]))
          refine own_by (fun _ k => XS.lconst X25.here hx rfl (hb hby at_223) k) ?_
          show OEnds p e below s _ _ _ (T25.setTop (mkF m 224 #[.val (.long q0), .second, .val (.int q1), .val (.long q2), .second, .val (.int q3), .val (.long q4), .second, .val (.int q5), .val (.int la), .val (.int lb), .val (.long off), .second, .val (.int oz), .val (.int hbv), .val (.int hzv), .val (.int oav), .val (.ref nb5), .val (.long (scanF [] (begin_start q2) (0 : Int64) off ((begin_empty + (1 : Int64)) + (1 : Int64)))), .second, .val (.long q2), .second, .val (.long (1 : Int64)), .second] [(.long (1 : Int64)), (.long (1 : Int64))]))
          refine own_by (fun _ k => XS.ladd X25.here hx rfl (hb hby at_224) rfl k) ?_
          show OEnds p e below s _ _ _ (T25.setTop (mkF m 225 #[.val (.long q0), .second, .val (.int q1), .val (.long q2), .second, .val (.int q3), .val (.long q4), .second, .val (.int q5), .val (.int la), .val (.int lb), .val (.long off), .second, .val (.int oz), .val (.int hbv), .val (.int hzv), .val (.int oav), .val (.ref nb5), .val (.long (scanF [] (begin_start q2) (0 : Int64) off ((begin_empty + (1 : Int64)) + (1 : Int64)))), .second, .val (.long q2), .second, .val (.long (1 : Int64)), .second] [(.long (2 : Int64))]))
          refine own_by (fun _ k => XS.lstore X25.here hx rfl (hb hby at_225) rfl (l' := #[.val (.long q0), .second, .val (.int q1), .val (.long q2), .second, .val (.int q3), .val (.long q4), .second, .val (.int q5), .val (.int la), .val (.int lb), .val (.long off), .second, .val (.int oz), .val (.int hbv), .val (.int hzv), .val (.int oav), .val (.ref nb5), .val (.long (scanF [] (begin_start q2) (0 : Int64) off ((begin_empty + (1 : Int64)) + (1 : Int64)))), .second, .val (.long q2), .second, .val (.long (2 : Int64)), .second]) rfl k) ?_
          show OEnds p e below s _ _ _ (T25.setTop (mkF m 227 #[.val (.long q0), .second, .val (.int q1), .val (.long q2), .second, .val (.int q3), .val (.long q4), .second, .val (.int q5), .val (.int la), .val (.int lb), .val (.long off), .second, .val (.int oz), .val (.int hbv), .val (.int hzv), .val (.int oav), .val (.ref nb5), .val (.long (scanF [] (begin_start q2) (0 : Int64) off ((begin_empty + (1 : Int64)) + (1 : Int64)))), .second, .val (.long q2), .second, .val (.long (2 : Int64)), .second] []))
          refine own_by (fun _ k => XS.lload X25.here hx rfl (hb hby at_227) rfl k) ?_
          show OEnds p e below s _ _ _ (T25.setTop (mkF m 229 #[.val (.long q0), .second, .val (.int q1), .val (.long q2), .second, .val (.int q3), .val (.long q4), .second, .val (.int q5), .val (.int la), .val (.int lb), .val (.long off), .second, .val (.int oz), .val (.int hbv), .val (.int hzv), .val (.int oav), .val (.ref nb5), .val (.long (scanF [] (begin_start q2) (0 : Int64) off ((begin_empty + (1 : Int64)) + (1 : Int64)))), .second, .val (.long q2), .second, .val (.long (2 : Int64)), .second] [(.long (scanF [] (begin_start q2) (0 : Int64) off ((begin_empty + (1 : Int64)) + (1 : Int64))))]))
          refine own_by (fun _ k => XS.lload X25.here hx rfl (hb hby at_229) rfl k) ?_
          show OEnds p e below s _ _ _ (T25.setTop (mkF m 231 #[.val (.long q0), .second, .val (.int q1), .val (.long q2), .second, .val (.int q3), .val (.long q4), .second, .val (.int q5), .val (.int la), .val (.int lb), .val (.long off), .second, .val (.int oz), .val (.int hbv), .val (.int hzv), .val (.int oav), .val (.ref nb5), .val (.long (scanF [] (begin_start q2) (0 : Int64) off ((begin_empty + (1 : Int64)) + (1 : Int64)))), .second, .val (.long q2), .second, .val (.long (2 : Int64)), .second] [(.long q2), (.long (scanF [] (begin_start q2) (0 : Int64) off ((begin_empty + (1 : Int64)) + (1 : Int64))))]))
          refine own_by (X25.ldc2Long hx hown (mvT hZ (hw _ (List.mem_of_getElem? (i := 36) rfl))) (g := (mkF m 231 #[.val (.long q0), .second, .val (.int q1), .val (.long q2), .second, .val (.int q3), .val (.long q4), .second, .val (.int q5), .val (.int la), .val (.int lb), .val (.long off), .second, .val (.int oz), .val (.int hbv), .val (.int hzv), .val (.int oav), .val (.ref nb5), .val (.long (scanF [] (begin_start q2) (0 : Int64) off ((begin_empty + (1 : Int64)) + (1 : Int64)))), .second, .val (.long q2), .second, .val (.long (2 : Int64)), .second] [(.long q2), (.long (scanF [] (begin_start q2) (0 : Int64) off ((begin_empty + (1 : Int64)) + (1 : Int64))))])) rfl (hb hby at_231)) ?_
          show OEnds p e below s _ _ _ (T25.setTop (mkF m 234 #[.val (.long q0), .second, .val (.int q1), .val (.long q2), .second, .val (.int q3), .val (.long q4), .second, .val (.int q5), .val (.int la), .val (.int lb), .val (.long off), .second, .val (.int oz), .val (.int hbv), .val (.int hzv), .val (.int oav), .val (.ref nb5), .val (.long (scanF [] (begin_start q2) (0 : Int64) off ((begin_empty + (1 : Int64)) + (1 : Int64)))), .second, .val (.long q2), .second, .val (.long (2 : Int64)), .second] [(.long (4 : Int64)), (.long q2), (.long (scanF [] (begin_start q2) (0 : Int64) off ((begin_empty + (1 : Int64)) + (1 : Int64))))]))
          refine own_by (fun _ k => XS.lload X25.here hx rfl (hb hby at_234) rfl k) ?_
          show OEnds p e below s _ _ _ (T25.setTop (mkF m 236 #[.val (.long q0), .second, .val (.int q1), .val (.long q2), .second, .val (.int q3), .val (.long q4), .second, .val (.int q5), .val (.int la), .val (.int lb), .val (.long off), .second, .val (.int oz), .val (.int hbv), .val (.int hzv), .val (.int oav), .val (.ref nb5), .val (.long (scanF [] (begin_start q2) (0 : Int64) off ((begin_empty + (1 : Int64)) + (1 : Int64)))), .second, .val (.long q2), .second, .val (.long (2 : Int64)), .second] [(.long (2 : Int64)), (.long (4 : Int64)), (.long q2), (.long (scanF [] (begin_start q2) (0 : Int64) off ((begin_empty + (1 : Int64)) + (1 : Int64))))]))
          refine own_by (fun _ k => XS.lmul X25.here hx rfl (hb hby at_236) rfl k) ?_
          show OEnds p e below s _ _ _ (T25.setTop (mkF m 237 #[.val (.long q0), .second, .val (.int q1), .val (.long q2), .second, .val (.int q3), .val (.long q4), .second, .val (.int q5), .val (.int la), .val (.int lb), .val (.long off), .second, .val (.int oz), .val (.int hbv), .val (.int hzv), .val (.int oav), .val (.ref nb5), .val (.long (scanF [] (begin_start q2) (0 : Int64) off ((begin_empty + (1 : Int64)) + (1 : Int64)))), .second, .val (.long q2), .second, .val (.long (2 : Int64)), .second] [(.long (8 : Int64)), (.long q2), (.long (scanF [] (begin_start q2) (0 : Int64) off ((begin_empty + (1 : Int64)) + (1 : Int64))))]))
          refine own_by (fun _ k => XS.ladd X25.here hx rfl (hb hby at_237) rfl k) ?_
          show OEnds p e below s _ _ _ (T25.setTop (mkF m 238 #[.val (.long q0), .second, .val (.int q1), .val (.long q2), .second, .val (.int q3), .val (.long q4), .second, .val (.int q5), .val (.int la), .val (.int lb), .val (.long off), .second, .val (.int oz), .val (.int hbv), .val (.int hzv), .val (.int oav), .val (.ref nb5), .val (.long (scanF [] (begin_start q2) (0 : Int64) off ((begin_empty + (1 : Int64)) + (1 : Int64)))), .second, .val (.long q2), .second, .val (.long (2 : Int64)), .second] [(.long (q2 + (8 : Int64))), (.long (scanF [] (begin_start q2) (0 : Int64) off ((begin_empty + (1 : Int64)) + (1 : Int64))))]))
          refine own_by (fun _ k => XS.lcmp X25.here hx rfl (hb hby at_238) rfl k) ?_
          show OEnds p e below s _ _ _ (T25.setTop (mkF m 239 #[.val (.long q0), .second, .val (.int q1), .val (.long q2), .second, .val (.int q3), .val (.long q4), .second, .val (.int q5), .val (.int la), .val (.int lb), .val (.long off), .second, .val (.int oz), .val (.int hbv), .val (.int hzv), .val (.int oav), .val (.ref nb5), .val (.long (scanF [] (begin_start q2) (0 : Int64) off ((begin_empty + (1 : Int64)) + (1 : Int64)))), .second, .val (.long q2), .second, .val (.long (2 : Int64)), .second] [(.int (lcmpW (scanF [] (begin_start q2) (0 : Int64) off ((begin_empty + (1 : Int64)) + (1 : Int64))) (q2 + (8 : Int64))))]))
          refine own_by (fun _ k => XS.ifNo X25.here hx rfl (hb hby at_239) rfl ((if0 _ _).trans (teq ((lw_eq _ _).mpr (pl_nil (by decide)))).2) k) ?_
          show OEnds p e below s _ _ _ (T25.setTop (mkF m 242 #[.val (.long q0), .second, .val (.int q1), .val (.long q2), .second, .val (.int q3), .val (.long q4), .second, .val (.int q5), .val (.int la), .val (.int lb), .val (.long off), .second, .val (.int oz), .val (.int hbv), .val (.int hzv), .val (.int oav), .val (.ref nb5), .val (.long (scanF [] (begin_start q2) (0 : Int64) off ((begin_empty + (1 : Int64)) + (1 : Int64)))), .second, .val (.long q2), .second, .val (.long (2 : Int64)), .second] []))
          refine own_by (fun _ k => XS.iconst X25.here hx rfl (hb hby at_242) k) ?_
          show OEnds p e below s _ _ _ (T25.setTop (mkF m 243 #[.val (.long q0), .second, .val (.int q1), .val (.long q2), .second, .val (.int q3), .val (.long q4), .second, .val (.int q5), .val (.int la), .val (.int lb), .val (.long off), .second, .val (.int oz), .val (.int hbv), .val (.int hzv), .val (.int oav), .val (.ref nb5), .val (.long (scanF [] (begin_start q2) (0 : Int64) off ((begin_empty + (1 : Int64)) + (1 : Int64)))), .second, .val (.long q2), .second, .val (.long (2 : Int64)), .second] [(.int (1 : Int32))]))
          refine own_by (fun _ k => XS.goto X25.here hx rfl (pc0 := 243) (pc' := 247) rfl (hb hby at_243) (by decide) (by decide) k) ?_
          show OEnds p e below s _ _ _ (T25.setTop (mkF m 247 #[.val (.long q0), .second, .val (.int q1), .val (.long q2), .second, .val (.int q3), .val (.long q4), .second, .val (.int q5), .val (.int la), .val (.int lb), .val (.long off), .second, .val (.int oz), .val (.int hbv), .val (.int hzv), .val (.int oav), .val (.ref nb5), .val (.long (scanF [] (begin_start q2) (0 : Int64) off ((begin_empty + (1 : Int64)) + (1 : Int64)))), .second, .val (.long q2), .second, .val (.long (2 : Int64)), .second] [(.int (1 : Int32))]))
          exact own_retN X25 hx hlk .boolean (by simp) Bd.returns (hb hby at_247) ⟨rfl, N23⟩ (by decide) (by decide)
      · show OEnds p e below s _ _ _ (T8.setTop (mkF m 127 #[.val (.long q0), .second, .val (.int q1), .val (.long q2), .second, .val (.int q3), .val (.long q4), .second, .val (.int q5), .val (.int la), .val (.int lb), .val (.long off), .second, .val (.int oz), .val (.int hbv), .val (.int hzv), .val (.int oav), .val (.ref nb5), .unset, .unset, .unset, .unset, .unset, .unset] []))
        refine own_by (fun _ k => XS.aload X8.here hx rfl (hb hby at_127) rfl rfl k) ?_
        show OEnds p e below s _ _ _ (T8.setTop (mkF m 129 #[.val (.long q0), .second, .val (.int q1), .val (.long q2), .second, .val (.int q3), .val (.long q4), .second, .val (.int q5), .val (.int la), .val (.int lb), .val (.long off), .second, .val (.int oz), .val (.int hbv), .val (.int hzv), .val (.int oav), .val (.ref nb5), .unset, .unset, .unset, .unset, .unset, .unset] [(.ref nb5)]))
        refine own_by (fun _ k => XS.iload X8.here hx rfl (hb hby at_129) rfl k) ?_
        show OEnds p e below s _ _ _ (T8.setTop (mkF m 131 #[.val (.long q0), .second, .val (.int q1), .val (.long q2), .second, .val (.int q3), .val (.long q4), .second, .val (.int q5), .val (.int la), .val (.int lb), .val (.long off), .second, .val (.int oz), .val (.int hbv), .val (.int hzv), .val (.int oav), .val (.ref nb5), .unset, .unset, .unset, .unset, .unset, .unset] [(.int lb), (.ref nb5)]))
        have F28 : FA Z h8 bf .byte 16 (fun i => .int (cf i)) := (Fa_bl116_bf.keep Kq8 (ninS (Ne.symm (Ob_bl116_nb5.ne_fa (hw _ (List.mem_of_getElem? (i := 3) rfl)) Fa_bl116_bf)) nin0))
        obtain ⟨v27, T27, L27, h27, X27, e27, hQ27, st27⟩ := own_callV X8 hx hZ (y := (⟨"com/example/fourfold/fourfold/xdr/FragmentMap", "add", "(I)V"⟩ : MethodName)) hown (hw _ (List.mem_of_getElem? (i := 25) rfl)) (hw _ (List.mem_of_getElem? (i := 26) rfl)) (hw _ (List.mem_of_getElem? (i := 28) rfl)) (hw _ (List.mem_of_getElem? (i := 27) rfl)) (hw _ (List.mem_of_getElem? (i := 29) rfl)) (hw _ (List.mem_of_getElem? (i := 4) rfl)) (by decide) O8.exa (rm_addN l Z a0 hw [] nb5 lb bf (begin_start q2) begin_size begin_empty cf 0 lb.toInt.toNat h8 n0 Z8 O8 F28 g_nb5 gbf (by decide) (by decide) hz17 (by decide) (nn_cast hlb) (nn_lt lb)) e8 (g := (mkF m 131 #[.val (.long q0), .second, .val (.int q1), .val (.long q2), .second, .val (.int q3), .val (.long q4), .second, .val (.int q5), .val (.int la), .val (.int lb), .val (.long off), .second, .val (.int oz), .val (.int hbv), .val (.int hzv), .val (.int oav), .val (.ref nb5), .unset, .unset, .unset, .unset, .unset, .unset] [(.int lb), (.ref nb5)])) rfl (by rw [hml]; rfl) (argsL := [(.int lb)]) (rest := []) (lenOf pd_pIrV rfl) rfl (W := 0) (by show 2 * 0 + _ ≤ _; exact Nat.le_of_eq rfl) (hb hby at_131) (by decide) (by decide) (by decide) (by decide)
        obtain ⟨rfl, Nq27, Kq27, bs27, hE27, hbl27, sz27, hsz27, O27, F27⟩ := hQ27
        have N27 := Fr.app N8 Nq27
        have Z27 : n0 ≤ h27.size := Nat.le_trans Z8 Kq27.1
        refine own_tr st27 ?_
        show OEnds p e below s _ _ _ (T27.setTop (mkF m 134 #[.val (.long q0), .second, .val (.int q1), .val (.long q2), .second, .val (.int q3), .val (.long q4), .second, .val (.int q5), .val (.int la), .val (.int lb), .val (.long off), .second, .val (.int oz), .val (.int hbv), .val (.int hzv), .val (.int oav), .val (.ref nb5), .unset, .unset, .unset, .unset, .unset, .unset] []))
        refine own_by (fun _ k => XS.iload X27.here hx rfl (hb hby at_134) rfl k) ?_
        show OEnds p e below s _ _ _ (T27.setTop (mkF m 136 #[.val (.long q0), .second, .val (.int q1), .val (.long q2), .second, .val (.int q3), .val (.long q4), .second, .val (.int q5), .val (.int la), .val (.int lb), .val (.long off), .second, .val (.int oz), .val (.int hbv), .val (.int hzv), .val (.int oav), .val (.ref nb5), .unset, .unset, .unset, .unset, .unset, .unset] [(.int hzv)]))
        by_cases hc136_29 : hzv = (0 : Int32)
        · refine own_by (fun _ k => XS.ifYes X27.here hx rfl (pc0 := 136) (pc' := 145) rfl (hb hby at_136) rfl ((if0 _ _).trans (teq hc136_29).1) (by decide) (by decide) k) ?_
          show OEnds p e below s _ _ _ (T27.setTop (mkF m 145 #[.val (.long q0), .second, .val (.int q1), .val (.long q2), .second, .val (.int q3), .val (.long q4), .second, .val (.int q5), .val (.int la), .val (.int lb), .val (.long off), .second, .val (.int oz), .val (.int hbv), .val (.int hzv), .val (.int oav), .val (.ref nb5), .unset, .unset, .unset, .unset, .unset, .unset] []))
          refine own_by (fun _ k => XS.aload X27.here hx rfl (hb hby at_145) rfl rfl k) ?_
          show OEnds p e below s _ _ _ (T27.setTop (mkF m 147 #[.val (.long q0), .second, .val (.int q1), .val (.long q2), .second, .val (.int q3), .val (.long q4), .second, .val (.int q5), .val (.int la), .val (.int lb), .val (.long off), .second, .val (.int oz), .val (.int hbv), .val (.int hzv), .val (.int oav), .val (.ref nb5), .unset, .unset, .unset, .unset, .unset, .unset] [(.ref nb5)]))
          refine own_by (fun _ k => XS.lload X27.here hx rfl (hb hby at_147) rfl k) ?_
          show OEnds p e below s _ _ _ (T27.setTop (mkF m 149 #[.val (.long q0), .second, .val (.int q1), .val (.long q2), .second, .val (.int q3), .val (.long q4), .second, .val (.int q5), .val (.int la), .val (.int lb), .val (.long off), .second, .val (.int oz), .val (.int hbv), .val (.int hzv), .val (.int oav), .val (.ref nb5), .unset, .unset, .unset, .unset, .unset, .unset] [(.long off), (.ref nb5)]))
          obtain ⟨T30, X30, e30, st30⟩ := own_callR X27 hx hZ (y := (⟨"com/example/fourfold/fourfold/xdr/FragmentMap", "inStream", "(J)J"⟩ : MethodName)) hown (hw _ (List.mem_of_getElem? (i := 30) rfl)) (hw _ (List.mem_of_getElem? (i := 31) rfl)) (hw _ (List.mem_of_getElem? (i := 33) rfl)) (hw _ (List.mem_of_getElem? (i := 32) rfl)) (hw _ (List.mem_of_getElem? (i := 34) rfl)) (hw _ (List.mem_of_getElem? (i := 4) rfl)) (by decide) O27.exa (rm_inStream l Z a0 hw [] nb5 off bf (begin_start q2) sz27 (0 : Int64) (wrs cf 0 bs27) 16 (0 + bs27.length) [2 * lb.toInt.toNat] h27 n0 Z27 O27 F27 hsz27 (enc_one hE27 hbl27) (by omega) (by decide)) e27 (g := (mkF m 149 #[.val (.long q0), .second, .val (.int q1), .val (.long q2), .second, .val (.int q3), .val (.long q4), .second, .val (.int q5), .val (.int la), .val (.int lb), .val (.long off), .second, .val (.int oz), .val (.int hbv), .val (.int hzv), .val (.int oav), .val (.ref nb5), .unset, .unset, .unset, .unset, .unset, .unset] [(.long off), (.ref nb5)])) rfl (by rw [hml]; rfl) (argsL := [(.long off)]) (rest := []) (lenOf pd_pJrJ rfl) rfl (W := 0) (by show 2 * 0 + _ ≤ _; exact Nat.le_of_eq rfl) (hb hby at_149) (by decide) (by decide) (by decide) (by decide)
          refine own_by (st30) ?_
          show OEnds p e below s _ _ _ (T30.setTop (mkF m 152 #[.val (.long q0), .second, .val (.int q1), .val (.long q2), .second, .val (.int q3), .val (.long q4), .second, .val (.int q5), .val (.int la), .val (.int lb), .val (.long off), .second, .val (.int oz), .val (.int hbv), .val (.int hzv), .val (.int oav), .val (.ref nb5), .unset, .unset, .unset, .unset, .unset, .unset] [(.long (scanF [2 * lb.toInt.toNat] (begin_start q2) (0 : Int64) off (0 : Int64)))]))
          refine own_by (fun _ k => XS.lstore X30.here hx rfl (hb hby at_152) rfl (l' := #[.val (.long q0), .second, .val (.int q1), .val (.long q2), .second, .val (.int q3), .val (.long q4), .second, .val (.int q5), .val (.int la), .val (.int lb), .val (.long off), .second, .val (.int oz), .val (.int hbv), .val (.int hzv), .val (.int oav), .val (.ref nb5), .val (.long (scanF [2 * lb.toInt.toNat] (begin_start q2) (0 : Int64) off (0 : Int64))), .second, .unset, .unset, .unset, .unset]) rfl k) ?_
          show OEnds p e below s _ _ _ (T30.setTop (mkF m 154 #[.val (.long q0), .second, .val (.int q1), .val (.long q2), .second, .val (.int q3), .val (.long q4), .second, .val (.int q5), .val (.int la), .val (.int lb), .val (.long off), .second, .val (.int oz), .val (.int hbv), .val (.int hzv), .val (.int oav), .val (.ref nb5), .val (.long (scanF [2 * lb.toInt.toNat] (begin_start q2) (0 : Int64) off (0 : Int64))), .second, .unset, .unset, .unset, .unset] []))
          refine own_by (fun _ k => XS.lloadN X30.here hx rfl (hb hby at_154) rfl k) ?_
          show OEnds p e below s _ _ _ (T30.setTop (mkF m 155 #[.val (.long q0), .second, .val (.int q1), .val (.long q2), .second, .val (.int q3), .val (.long q4), .second, .val (.int q5), .val (.int la), .val (.int lb), .val (.long off), .second, .val (.int oz), .val (.int hbv), .val (.int hzv), .val (.int oav), .val (.ref nb5), .val (.long (scanF [2 * lb.toInt.toNat] (begin_start q2) (0 : Int64) off (0 : Int64))), .second, .unset, .unset, .unset, .unset] [(.long q2)]))
          refine own_by (fun _ k => XS.lstore X30.here hx rfl (hb hby at_155) rfl (l' := #[.val (.long q0), .second, .val (.int q1), .val (.long q2), .second, .val (.int q3), .val (.long q4), .second, .val (.int q5), .val (.int la), .val (.int lb), .val (.long off), .second, .val (.int oz), .val (.int hbv), .val (.int hzv), .val (.int oav), .val (.ref nb5), .val (.long (scanF [2 * lb.toInt.toNat] (begin_start q2) (0 : Int64) off (0 : Int64))), .second, .val (.long q2), .second, .unset, .unset]) rfl k) ?_
          show OEnds p e below s _ _ _ (T30.setTop (mkF m 157 #[.val (.long q0), .second, .val (.int q1), .val (.long q2), .second, .val (.int q3), .val (.long q4), .second, .val (.int q5), .val (.int la), .val (.int lb), .val (.long off), .second, .val (.int oz), .val (.int hbv), .val (.int hzv), .val (.int oav), .val (.ref nb5), .val (.long (scanF [2 * lb.toInt.toNat] (begin_start q2) (0 : Int64) off (0 : Int64))), .second, .val (.long q2), .second, .unset, .unset] []))
          refine own_by (fun _ k => XS.lconst X30.here hx rfl (hb hby at_157) k) ?_
          show OEnds p e below s _ _ _ (T30.setTop (mkF m 158 #[.val (.long q0), .second, .val (.int q1), .val (.long q2), .second, .val (.int q3), .val (.long q4), .second, .val (.int q5), .val (.int la), .val (.int lb), .val (.long off), .second, .val (.int oz), .val (.int hbv), .val (.int hzv), .val (.int oav), .val (.ref nb5), .val (.long (scanF [2 * lb.toInt.toNat] (begin_start q2) (0 : Int64) off (0 : Int64))), .second, .val (.long q2), .second, .unset, .unset] [(.long (0 : Int64))]))
          refine own_by (fun _ k => XS.lstore X30.here hx rfl (hb hby at_158) rfl (l' := #[.val (.long q0), .second, .val (.int q1), .val (.long q2), .second, .val (.int q3), .val (.long q4), .second, .val (.int q5), .val (.int la), .val (.int lb), .val (.long off), .second, .val (.int oz), .val (.int hbv), .val (.int hzv), .val (.int oav), .val (.ref nb5), .val (.long (scanF [2 * lb.toInt.toNat] (begin_start q2) (0 : Int64) off (0 : Int64))), .second, .val (.long q2), .second, .val (.long (0 : Int64)), .second]) rfl k) ?_
          show OEnds p e below s _ _ _ (T30.setTop (mkF m 160 #[.val (.long q0), .second, .val (.int q1), .val (.long q2), .second, .val (.int q3), .val (.long q4), .second, .val (.int q5), .val (.int la), .val (.int lb), .val (.long off), .second, .val (.int oz), .val (.int hbv), .val (.int hzv), .val (.int oav), .val (.ref nb5), .val (.long (scanF [2 * lb.toInt.toNat] (begin_start q2) (0 : Int64) off (0 : Int64))), .second, .val (.long q2), .second, .val (.long (0 : Int64)), .second] []))
          refine own_by (fun _ k => XS.iload X30.here hx rfl (hb hby at_160) rfl k) ?_
          show OEnds p e below s _ _ _ (T30.setTop (mkF m 162 #[.val (.long q0), .second, .val (.int q1), .val (.long q2), .second, .val (.int q3), .val (.long q4), .second, .val (.int q5), .val (.int la), .val (.int lb), .val (.long off), .second, .val (.int oz), .val (.int hbv), .val (.int hzv), .val (.int oav), .val (.ref nb5), .val (.long (scanF [2 * lb.toInt.toNat] (begin_start q2) (0 : Int64) off (0 : Int64))), .second, .val (.long q2), .second, .val (.long (0 : Int64)), .second] [(.int hbv)]))
          refine own_by (fun _ k => XS.ifNo X30.here hx rfl (hb hby at_162) rfl ((if0 _ _).trans (feq hc124_9).1) k) ?_
          show OEnds p e below s _ _ _ (T30.setTop (mkF m 165 #[.val (.long q0), .second, .val (.int q1), .val (.long q2), .second, .val (.int q3), .val (.long q4), .second, .val (.int q5), .val (.int la), .val (.int lb), .val (.long off), .second, .val (.int oz), .val (.int hbv), .val (.int hzv), .val (.int oav), .val (.ref nb5), .val (.long (scanF [2 * lb.toInt.toNat] (begin_start q2) (0 : Int64) off (0 : Int64))), .second, .val (.long q2), .second, .val (.long (0 : Int64)), .second] []))
          refine own_by (fun _ k => XS.iload X30.here hx rfl (hb hby at_165) rfl k) ?_
          show OEnds p e below s _ _ _ (T30.setTop (mkF m 167 #[.val (.long q0), .second, .val (.int q1), .val (.long q2), .second, .val (.int q3), .val (.long q4), .second, .val (.int q5), .val (.int la), .val (.int lb), .val (.long off), .second, .val (.int oz), .val (.int hbv), .val (.int hzv), .val (.int oav), .val (.ref nb5), .val (.long (scanF [2 * lb.toInt.toNat] (begin_start q2) (0 : Int64) off (0 : Int64))), .second, .val (.long q2), .second, .val (.long (0 : Int64)), .second] [(.int lb)]))
          refine own_by (fun _ k => XS.ifYes X30.here hx rfl (pc0 := 167) (pc' := 176) rfl (hb hby at_167) rfl ((if0 _ _).trans (feq hz17).2) (by decide) (by decide) k) ?_
          show OEnds p e below s _ _ _ (T30.setTop (mkF m 176 #[.val (.long q0), .second, .val (.int q1), .val (.long q2), .second, .val (.int q3), .val (.long q4), .second, .val (.int q5), .val (.int la), .val (.int lb), .val (.long off), .second, .val (.int oz), .val (.int hbv), .val (.int hzv), .val (.int oav), .val (.ref nb5), .val (.long (scanF [2 * lb.toInt.toNat] (begin_start q2) (0 : Int64) off (0 : Int64))), .second, .val (.long q2), .second, .val (.long (0 : Int64)), .second] []))
          refine own_by (fun _ k => XS.lload X30.here hx rfl (hb hby at_176) rfl k) ?_
          show OEnds p e below s _ _ _ (T30.setTop (mkF m 178 #[.val (.long q0), .second, .val (.int q1), .val (.long q2), .second, .val (.int q3), .val (.long q4), .second, .val (.int q5), .val (.int la), .val (.int lb), .val (.long off), .second, .val (.int oz), .val (.int hbv), .val (.int hzv), .val (.int oav), .val (.ref nb5), .val (.long (scanF [2 * lb.toInt.toNat] (begin_start q2) (0 : Int64) off (0 : Int64))), .second, .val (.long q2), .second, .val (.long (0 : Int64)), .second] [(.long off)]))
          refine own_by (fun _ k => XS.iload X30.here hx rfl (hb hby at_178) rfl k) ?_
          show OEnds p e below s _ _ _ (T30.setTop (mkF m 180 #[.val (.long q0), .second, .val (.int q1), .val (.long q2), .second, .val (.int q3), .val (.long q4), .second, .val (.int q5), .val (.int la), .val (.int lb), .val (.long off), .second, .val (.int oz), .val (.int hbv), .val (.int hzv), .val (.int oav), .val (.ref nb5), .val (.long (scanF [2 * lb.toInt.toNat] (begin_start q2) (0 : Int64) off (0 : Int64))), .second, .val (.long q2), .second, .val (.long (0 : Int64)), .second] [(.int lb), (.long off)]))
          refine own_by (fun _ k => XS.i2l X30.here hx rfl (hb hby at_180) rfl k) ?_
          show OEnds p e below s _ _ _ (T30.setTop (mkF m 181 #[.val (.long q0), .second, .val (.int q1), .val (.long q2), .second, .val (.int q3), .val (.long q4), .second, .val (.int q5), .val (.int la), .val (.int lb), .val (.long off), .second, .val (.int oz), .val (.int hbv), .val (.int hzv), .val (.int oav), .val (.ref nb5), .val (.long (scanF [2 * lb.toInt.toNat] (begin_start q2) (0 : Int64) off (0 : Int64))), .second, .val (.long q2), .second, .val (.long (0 : Int64)), .second] [(.long (lb.toInt64)), (.long off)]))
          refine own_by (fun _ k => XS.lcmp X30.here hx rfl (hb hby at_181) rfl k) ?_
          show OEnds p e below s _ _ _ (T30.setTop (mkF m 182 #[.val (.long q0), .second, .val (.int q1), .val (.long q2), .second, .val (.int q3), .val (.long q4), .second, .val (.int q5), .val (.int la), .val (.int lb), .val (.long off), .second, .val (.int oz), .val (.int hbv), .val (.int hzv), .val (.int oav), .val (.ref nb5), .val (.long (scanF [2 * lb.toInt.toNat] (begin_start q2) (0 : Int64) off (0 : Int64))), .second, .val (.long q2), .second, .val (.long (0 : Int64)), .second] [(.int (lcmpW off (lb.toInt64)))]))
          by_cases hc182_31 : off < (lb.toInt64)
          · refine own_by (fun _ k => XS.ifNo X30.here hx rfl (hb hby at_182) rfl ((if0 _ _).trans (tlt ((lw_lt _ _).mpr hc182_31)).2.1) k) ?_
            show OEnds p e below s _ _ _ (T30.setTop (mkF m 185 #[.val (.long q0), .second, .val (.int q1), .val (.long q2), .second, .val (.int q3), .val (.long q4), .second, .val (.int q5), .val (.int la), .val (.int lb), .val (.long off), .second, .val (.int oz), .val (.int hbv), .val (.int hzv), .val (.int oav), .val (.ref nb5), .val (.long (scanF [2 * lb.toInt.toNat] (begin_start q2) (0 : Int64) off (0 : Int64))), .second, .val (.long q2), .second, .val (.long (0 : Int64)), .second] []))
            refine own_by (fun _ k => XS.lload X30.here hx rfl (hb hby at_185) rfl k) ?_
            show OEnds p e below s _ _ _ (T30.setTop (mkF m 187 #[.val (.long q0), .second, .val (.int q1), .val (.long q2), .second, .val (.int q3), .val (.long q4), .second, .val (.int q5), .val (.int la), .val (.int lb), .val (.long off), .second, .val (.int oz), .val (.int hbv), .val (.int hzv), .val (.int oav), .val (.ref nb5), .val (.long (scanF [2 * lb.toInt.toNat] (begin_start q2) (0 : Int64) off (0 : Int64))), .second, .val (.long q2), .second, .val (.long (0 : Int64)), .second] [(.long (scanF [2 * lb.toInt.toNat] (begin_start q2) (0 : Int64) off (0 : Int64)))]))
            refine own_by (fun _ k => XS.lloadN X30.here hx rfl (hb hby at_187) rfl k) ?_
            show OEnds p e below s _ _ _ (T30.setTop (mkF m 188 #[.val (.long q0), .second, .val (.int q1), .val (.long q2), .second, .val (.int q3), .val (.long q4), .second, .val (.int q5), .val (.int la), .val (.int lb), .val (.long off), .second, .val (.int oz), .val (.int hbv), .val (.int hzv), .val (.int oav), .val (.ref nb5), .val (.long (scanF [2 * lb.toInt.toNat] (begin_start q2) (0 : Int64) off (0 : Int64))), .second, .val (.long q2), .second, .val (.long (0 : Int64)), .second] [(.long q2), (.long (scanF [2 * lb.toInt.toNat] (begin_start q2) (0 : Int64) off (0 : Int64)))]))
            refine own_by (X30.ldc2Long hx hown (mvT hZ (hw _ (List.mem_of_getElem? (i := 36) rfl))) (g := (mkF m 188 #[.val (.long q0), .second, .val (.int q1), .val (.long q2), .second, .val (.int q3), .val (.long q4), .second, .val (.int q5), .val (.int la), .val (.int lb), .val (.long off), .second, .val (.int oz), .val (.int hbv), .val (.int hzv), .val (.int oav), .val (.ref nb5), .val (.long (scanF [2 * lb.toInt.toNat] (begin_start q2) (0 : Int64) off (0 : Int64))), .second, .val (.long q2), .second, .val (.long (0 : Int64)), .second] [(.long q2), (.long (scanF [2 * lb.toInt.toNat] (begin_start q2) (0 : Int64) off (0 : Int64)))])) rfl (hb hby at_188)) ?_
            show OEnds p e below s _ _ _ (T30.setTop (mkF m 191 #[.val (.long q0), .second, .val (.int q1), .val (.long q2), .second, .val (.int q3), .val (.long q4), .second, .val (.int q5), .val (.int la), .val (.int lb), .val (.long off), .second, .val (.int oz), .val (.int hbv), .val (.int hzv), .val (.int oav), .val (.ref nb5), .val (.long (scanF [2 * lb.toInt.toNat] (begin_start q2) (0 : Int64) off (0 : Int64))), .second, .val (.long q2), .second, .val (.long (0 : Int64)), .second] [(.long (4 : Int64)), (.long q2), (.long (scanF [2 * lb.toInt.toNat] (begin_start q2) (0 : Int64) off (0 : Int64)))]))
            refine own_by (fun _ k => XS.ladd X30.here hx rfl (hb hby at_191) rfl k) ?_
            show OEnds p e below s _ _ _ (T30.setTop (mkF m 192 #[.val (.long q0), .second, .val (.int q1), .val (.long q2), .second, .val (.int q3), .val (.long q4), .second, .val (.int q5), .val (.int la), .val (.int lb), .val (.long off), .second, .val (.int oz), .val (.int hbv), .val (.int hzv), .val (.int oav), .val (.ref nb5), .val (.long (scanF [2 * lb.toInt.toNat] (begin_start q2) (0 : Int64) off (0 : Int64))), .second, .val (.long q2), .second, .val (.long (0 : Int64)), .second] [(.long (q2 + (4 : Int64))), (.long (scanF [2 * lb.toInt.toNat] (begin_start q2) (0 : Int64) off (0 : Int64)))]))
            refine own_by (fun _ k => XS.lload X30.here hx rfl (hb hby at_192) rfl k) ?_
            show OEnds p e below s _ _ _ (T30.setTop (mkF m 194 #[.val (.long q0), .second, .val (.int q1), .val (.long q2), .second, .val (.int q3), .val (.long q4), .second, .val (.int q5), .val (.int la), .val (.int lb), .val (.long off), .second, .val (.int oz), .val (.int hbv), .val (.int hzv), .val (.int oav), .val (.ref nb5), .val (.long (scanF [2 * lb.toInt.toNat] (begin_start q2) (0 : Int64) off (0 : Int64))), .second, .val (.long q2), .second, .val (.long (0 : Int64)), .second] [(.long off), (.long (q2 + (4 : Int64))), (.long (scanF [2 * lb.toInt.toNat] (begin_start q2) (0 : Int64) off (0 : Int64)))]))
            refine own_by (fun _ k => XS.ladd X30.here hx rfl (hb hby at_194) rfl k) ?_
            show OEnds p e below s _ _ _ (T30.setTop (mkF m 195 #[.val (.long q0), .second, .val (.int q1), .val (.long q2), .second, .val (.int q3), .val (.long q4), .second, .val (.int q5), .val (.int la), .val (.int lb), .val (.long off), .second, .val (.int oz), .val (.int hbv), .val (.int hzv), .val (.int oav), .val (.ref nb5), .val (.long (scanF [2 * lb.toInt.toNat] (begin_start q2) (0 : Int64) off (0 : Int64))), .second, .val (.long q2), .second, .val (.long (0 : Int64)), .second] [(.long ((q2 + (4 : Int64)) + off)), (.long (scanF [2 * lb.toInt.toNat] (begin_start q2) (0 : Int64) off (0 : Int64)))]))
            refine own_by (fun _ k => XS.lcmp X30.here hx rfl (hb hby at_195) rfl k) ?_
            show OEnds p e below s _ _ _ (T30.setTop (mkF m 196 #[.val (.long q0), .second, .val (.int q1), .val (.long q2), .second, .val (.int q3), .val (.long q4), .second, .val (.int q5), .val (.int la), .val (.int lb), .val (.long off), .second, .val (.int oz), .val (.int hbv), .val (.int hzv), .val (.int oav), .val (.ref nb5), .val (.long (scanF [2 * lb.toInt.toNat] (begin_start q2) (0 : Int64) off (0 : Int64))), .second, .val (.long q2), .second, .val (.long (0 : Int64)), .second] [(.int (lcmpW (scanF [2 * lb.toInt.toNat] (begin_start q2) (0 : Int64) off (0 : Int64)) ((q2 + (4 : Int64)) + off)))]))
            refine own_by (fun _ k => XS.ifNo X30.here hx rfl (hb hby at_196) rfl ((if0 _ _).trans (teq ((lw_eq _ _).mpr (pl_hit hlb hc182_31))).2) k) ?_
            show OEnds p e below s _ _ _ (T30.setTop (mkF m 199 #[.val (.long q0), .second, .val (.int q1), .val (.long q2), .second, .val (.int q3), .val (.long q4), .second, .val (.int q5), .val (.int la), .val (.int lb), .val (.long off), .second, .val (.int oz), .val (.int hbv), .val (.int hzv), .val (.int oav), .val (.ref nb5), .val (.long (scanF [2 * lb.toInt.toNat] (begin_start q2) (0 : Int64) off (0 : Int64))), .second, .val (.long q2), .second, .val (.long (0 : Int64)), .second] []))
            refine own_by (fun _ k => XS.iconst X30.here hx rfl (hb hby at_199) k) ?_
            show OEnds p e below s _ _ _ (T30.setTop (mkF m 200 #[.val (.long q0), .second, .val (.int q1), .val (.long q2), .second, .val (.int q3), .val (.long q4), .second, .val (.int q5), .val (.int la), .val (.int lb), .val (.long off), .second, .val (.int oz), .val (.int hbv), .val (.int hzv), .val (.int oav), .val (.ref nb5), .val (.long (scanF [2 * lb.toInt.toNat] (begin_start q2) (0 : Int64) off (0 : Int64))), .second, .val (.long q2), .second, .val (.long (0 : Int64)), .second] [(.int (1 : Int32))]))
            refine own_by (fun _ k => XS.goto X30.here hx rfl (pc0 := 200) (pc' := 204) rfl (hb hby at_200) (by decide) (by decide) k) ?_
            show OEnds p e below s _ _ _ (T30.setTop (mkF m 204 #[.val (.long q0), .second, .val (.int q1), .val (.long q2), .second, .val (.int q3), .val (.long q4), .second, .val (.int q5), .val (.int la), .val (.int lb), .val (.long off), .second, .val (.int oz), .val (.int hbv), .val (.int hzv), .val (.int oav), .val (.ref nb5), .val (.long (scanF [2 * lb.toInt.toNat] (begin_start q2) (0 : Int64) off (0 : Int64))), .second, .val (.long q2), .second, .val (.long (0 : Int64)), .second] [(.int (1 : Int32))]))
            exact own_retN X30 hx hlk .boolean (by simp) Bd.returns (hb hby at_204) ⟨rfl, N27⟩ (by decide) (by decide)
          · refine own_by (fun _ k => XS.ifYes X30.here hx rfl (pc0 := 182) (pc' := 205) rfl (hb hby at_182) rfl ((if0 _ _).trans (flt (fun q => hc182_31 ((lw_lt _ _).mp q))).2.1) (by decide) (by decide) k) ?_
            show OEnds p e below s _ _ _ (T30.setTop (mkF m 205 #[.val (.long q0), .second, .val (.int q1), .val (.long q2), .second, .val (.int q3), .val (.long q4), .second, .val (.int q5), .val (.int la), .val (.int lb), .val (.long off), .second, .val (.int oz), .val (.int hbv), .val (.int hzv), .val (.int oav), .val (.ref nb5), .val (.long (scanF [2 * lb.toInt.toNat] (begin_start q2) (0 : Int64) off (0 : Int64))), .second, .val (.long q2), .second, .val (.long (0 : Int64)), .second] []))
            refine own_by (fun _ k => XS.lloadN X30.here hx rfl (hb hby at_205) rfl k) ?_
            show OEnds p e below s _ _ _ (T30.setTop (mkF m 206 #[.val (.long q0), .second, .val (.int q1), .val (.long q2), .second, .val (.int q3), .val (.long q4), .second, .val (.int q5), .val (.int la), .val (.int lb), .val (.long off), .second, .val (.int oz), .val (.int hbv), .val (.int hzv), .val (.int oav), .val (.ref nb5), .val (.long (scanF [2 * lb.toInt.toNat] (begin_start q2) (0 : Int64) off (0 : Int64))), .second, .val (.long q2), .second, .val (.long (0 : Int64)), .second] [(.long q2)]))
            refine own_by (X30.ldc2Long hx hown (mvT hZ (hw _ (List.mem_of_getElem? (i := 36) rfl))) (g := (mkF m 206 #[.val (.long q0), .second, .val (.int q1), .val (.long q2), .second, .val (.int q3), .val (.long q4), .second, .val (.int q5), .val (.int la), .val (.int lb), .val (.long off), .second, .val (.int oz), .val (.int hbv), .val (.int hzv), .val (.int oav), .val (.ref nb5), .val (.long (scanF [2 * lb.toInt.toNat] (begin_start q2) (0 : Int64) off (0 : Int64))), .second, .val (.long q2), .second, .val (.long (0 : Int64)), .second] [(.long q2)])) rfl (hb hby at_206)) ?_
            show OEnds p e below s _ _ _ (T30.setTop (mkF m 209 #[.val (.long q0), .second, .val (.int q1), .val (.long q2), .second, .val (.int q3), .val (.long q4), .second, .val (.int q5), .val (.int la), .val (.int lb), .val (.long off), .second, .val (.int oz), .val (.int hbv), .val (.int hzv), .val (.int oav), .val (.ref nb5), .val (.long (scanF [2 * lb.toInt.toNat] (begin_start q2) (0 : Int64) off (0 : Int64))), .second, .val (.long q2), .second, .val (.long (0 : Int64)), .second] [(.long (4 : Int64)), (.long q2)]))
            refine own_by (fun _ k => XS.ladd X30.here hx rfl (hb hby at_209) rfl k) ?_
            show OEnds p e below s _ _ _ (T30.setTop (mkF m 210 #[.val (.long q0), .second, .val (.int q1), .val (.long q2), .second, .val (.int q3), .val (.long q4), .second, .val (.int q5), .val (.int la), .val (.int lb), .val (.long off), .second, .val (.int oz), .val (.int hbv), .val (.int hzv), .val (.int oav), .val (.ref nb5), .val (.long (scanF [2 * lb.toInt.toNat] (begin_start q2) (0 : Int64) off (0 : Int64))), .second, .val (.long q2), .second, .val (.long (0 : Int64)), .second] [(.long (q2 + (4 : Int64)))]))
            refine own_by (fun _ k => XS.iload X30.here hx rfl (hb hby at_210) rfl k) ?_
            show OEnds p e below s _ _ _ (T30.setTop (mkF m 212 #[.val (.long q0), .second, .val (.int q1), .val (.long q2), .second, .val (.int q3), .val (.long q4), .second, .val (.int q5), .val (.int la), .val (.int lb), .val (.long off), .second, .val (.int oz), .val (.int hbv), .val (.int hzv), .val (.int oav), .val (.ref nb5), .val (.long (scanF [2 * lb.toInt.toNat] (begin_start q2) (0 : Int64) off (0 : Int64))), .second, .val (.long q2), .second, .val (.long (0 : Int64)), .second] [(.int lb), (.long (q2 + (4 : Int64)))]))
            refine own_by (fun _ k => XS.i2l X30.here hx rfl (hb hby at_212) rfl k) ?_
            show OEnds p e below s _ _ _ (T30.setTop (mkF m 213 #[.val (.long q0), .second, .val (.int q1), .val (.long q2), .second, .val (.int q3), .val (.long q4), .second, .val (.int q5), .val (.int la), .val (.int lb), .val (.long off), .second, .val (.int oz), .val (.int hbv), .val (.int hzv), .val (.int oav), .val (.ref nb5), .val (.long (scanF [2 * lb.toInt.toNat] (begin_start q2) (0 : Int64) off (0 : Int64))), .second, .val (.long q2), .second, .val (.long (0 : Int64)), .second] [(.long (lb.toInt64)), (.long (q2 + (4 : Int64)))]))
            refine own_by (fun _ k => XS.ladd X30.here hx rfl (hb hby at_213) rfl k) ?_
            show OEnds p e below s _ _ _ (T30.setTop (mkF m 214 #[.val (.long q0), .second, .val (.int q1), .val (.long q2), .second, .val (.int q3), .val (.long q4), .second, .val (.int q5), .val (.int la), .val (.int lb), .val (.long off), .second, .val (.int oz), .val (.int hbv), .val (.int hzv), .val (.int oav), .val (.ref nb5), .val (.long (scanF [2 * lb.toInt.toNat] (begin_start q2) (0 : Int64) off (0 : Int64))), .second, .val (.long q2), .second, .val (.long (0 : Int64)), .second] [(.long ((q2 + (4 : Int64)) + (lb.toInt64)))]))
            refine own_by (fun _ k => XS.lstore X30.here hx rfl (hb hby at_214) rfl (l' := #[.val (.long q0), .second, .val (.int q1), .val (.long q2), .second, .val (.int q3), .val (.long q4), .second, .val (.int q5), .val (.int la), .val (.int lb), .val (.long off), .second, .val (.int oz), .val (.int hbv), .val (.int hzv), .val (.int oav), .val (.ref nb5), .val (.long (scanF [2 * lb.toInt.toNat] (begin_start q2) (0 : Int64) off (0 : Int64))), .second, .val (.long ((q2 + (4 : Int64)) + (lb.toInt64))), .second, .val (.long (0 : Int64)), .second]) rfl k) ?_
            show OEnds p e below s _ _ _ (T30.setTop (mkF m 216 #[.val (.long q0), .second, .val (.int q1), .val (.long q2), .second, .val (.int q3), .val (.long q4), .second, .val (.int q5), .val (.int la), .val (.int lb), .val (.long off), .second, .val (.int oz), .val (.int hbv), .val (.int hzv), .val (.int oav), .val (.ref nb5), .val (.long (scanF [2 * lb.toInt.toNat] (begin_start q2) (0 : Int64) off (0 : Int64))), .second, .val (.long ((q2 + (4 : Int64)) + (lb.toInt64))), .second, .val (.long (0 : Int64)), .second] []))
            refine own_by (fun _ k => XS.iload X30.here hx rfl (hb hby at_216) rfl k) ?_
            show OEnds p e below s _ _ _ (T30.setTop (mkF m 218 #[.val (.long q0), .second, .val (.int q1), .val (.long q2), .second, .val (.int q3), .val (.long q4), .second, .val (.int q5), .val (.int la), .val (.int lb), .val (.long off), .second, .val (.int oz), .val (.int hbv), .val (.int hzv), .val (.int oav), .val (.ref nb5), .val (.long (scanF [2 * lb.toInt.toNat] (begin_start q2) (0 : Int64) off (0 : Int64))), .second, .val (.long ((q2 + (4 : Int64)) + (lb.toInt64))), .second, .val (.long (0 : Int64)), .second] [(.int hzv)]))
            refine own_by (fun _ k => XS.ifYes X30.here hx rfl (pc0 := 218) (pc' := 227) rfl (hb hby at_218) rfl ((if0 _ _).trans (teq hc136_29).1) (by decide) (by decide) k) ?_
            show OEnds p e below s _ _ _ (T30.setTop (mkF m 227 #[.val (.long q0), .second, .val (.int q1), .val (.long q2), .second, .val (.int q3), .val (.long q4), .second, .val (.int q5), .val (.int la), .val (.int lb), .val (.long off), .second, .val (.int oz), .val (.int hbv), .val (.int hzv), .val (.int oav), .val (.ref nb5), .val (.long (scanF [2 * lb.toInt.toNat] (begin_start q2) (0 : Int64) off (0 : Int64))), .second, .val (.long ((q2 + (4 : Int64)) + (lb.toInt64))), .second, .val (.long (0 : Int64)), .second] []))
            refine own_by (fun _ k => XS.lload X30.here hx rfl (hb hby at_227) rfl k) ?_
            show OEnds p e below s _ _ _ (T30.setTop (mkF m 229 #[.val (.long q0), .second, .val (.int q1), .val (.long q2), .second, .val (.int q3), .val (.long q4), .second, .val (.int q5), .val (.int la), .val (.int lb), .val (.long off), .second, .val (.int oz), .val (.int hbv), .val (.int hzv), .val (.int oav), .val (.ref nb5), .val (.long (scanF [2 * lb.toInt.toNat] (begin_start q2) (0 : Int64) off (0 : Int64))), .second, .val (.long ((q2 + (4 : Int64)) + (lb.toInt64))), .second, .val (.long (0 : Int64)), .second] [(.long (scanF [2 * lb.toInt.toNat] (begin_start q2) (0 : Int64) off (0 : Int64)))]))
            refine own_by (fun _ k => XS.lload X30.here hx rfl (hb hby at_229) rfl k) ?_
            show OEnds p e below s _ _ _ (T30.setTop (mkF m 231 #[.val (.long q0), .second, .val (.int q1), .val (.long q2), .second, .val (.int q3), .val (.long q4), .second, .val (.int q5), .val (.int la), .val (.int lb), .val (.long off), .second, .val (.int oz), .val (.int hbv), .val (.int hzv), .val (.int oav), .val (.ref nb5), .val (.long (scanF [2 * lb.toInt.toNat] (begin_start q2) (0 : Int64) off (0 : Int64))), .second, .val (.long ((q2 + (4 : Int64)) + (lb.toInt64))), .second, .val (.long (0 : Int64)), .second] [(.long ((q2 + (4 : Int64)) + (lb.toInt64))), (.long (scanF [2 * lb.toInt.toNat] (begin_start q2) (0 : Int64) off (0 : Int64)))]))
            refine own_by (X30.ldc2Long hx hown (mvT hZ (hw _ (List.mem_of_getElem? (i := 36) rfl))) (g := (mkF m 231 #[.val (.long q0), .second, .val (.int q1), .val (.long q2), .second, .val (.int q3), .val (.long q4), .second, .val (.int q5), .val (.int la), .val (.int lb), .val (.long off), .second, .val (.int oz), .val (.int hbv), .val (.int hzv), .val (.int oav), .val (.ref nb5), .val (.long (scanF [2 * lb.toInt.toNat] (begin_start q2) (0 : Int64) off (0 : Int64))), .second, .val (.long ((q2 + (4 : Int64)) + (lb.toInt64))), .second, .val (.long (0 : Int64)), .second] [(.long ((q2 + (4 : Int64)) + (lb.toInt64))), (.long (scanF [2 * lb.toInt.toNat] (begin_start q2) (0 : Int64) off (0 : Int64)))])) rfl (hb hby at_231)) ?_
            show OEnds p e below s _ _ _ (T30.setTop (mkF m 234 #[.val (.long q0), .second, .val (.int q1), .val (.long q2), .second, .val (.int q3), .val (.long q4), .second, .val (.int q5), .val (.int la), .val (.int lb), .val (.long off), .second, .val (.int oz), .val (.int hbv), .val (.int hzv), .val (.int oav), .val (.ref nb5), .val (.long (scanF [2 * lb.toInt.toNat] (begin_start q2) (0 : Int64) off (0 : Int64))), .second, .val (.long ((q2 + (4 : Int64)) + (lb.toInt64))), .second, .val (.long (0 : Int64)), .second] [(.long (4 : Int64)), (.long ((q2 + (4 : Int64)) + (lb.toInt64))), (.long (scanF [2 * lb.toInt.toNat] (begin_start q2) (0 : Int64) off (0 : Int64)))]))
            refine own_by (fun _ k => XS.lload X30.here hx rfl (hb hby at_234) rfl k) ?_
            show OEnds p e below s _ _ _ (T30.setTop (mkF m 236 #[.val (.long q0), .second, .val (.int q1), .val (.long q2), .second, .val (.int q3), .val (.long q4), .second, .val (.int q5), .val (.int la), .val (.int lb), .val (.long off), .second, .val (.int oz), .val (.int hbv), .val (.int hzv), .val (.int oav), .val (.ref nb5), .val (.long (scanF [2 * lb.toInt.toNat] (begin_start q2) (0 : Int64) off (0 : Int64))), .second, .val (.long ((q2 + (4 : Int64)) + (lb.toInt64))), .second, .val (.long (0 : Int64)), .second] [(.long (0 : Int64)), (.long (4 : Int64)), (.long ((q2 + (4 : Int64)) + (lb.toInt64))), (.long (scanF [2 * lb.toInt.toNat] (begin_start q2) (0 : Int64) off (0 : Int64)))]))
            refine own_by (fun _ k => XS.lmul X30.here hx rfl (hb hby at_236) rfl k) ?_
            show OEnds p e below s _ _ _ (T30.setTop (mkF m 237 #[.val (.long q0), .second, .val (.int q1), .val (.long q2), .second, .val (.int q3), .val (.long q4), .second, .val (.int q5), .val (.int la), .val (.int lb), .val (.long off), .second, .val (.int oz), .val (.int hbv), .val (.int hzv), .val (.int oav), .val (.ref nb5), .val (.long (scanF [2 * lb.toInt.toNat] (begin_start q2) (0 : Int64) off (0 : Int64))), .second, .val (.long ((q2 + (4 : Int64)) + (lb.toInt64))), .second, .val (.long (0 : Int64)), .second] [(.long (0 : Int64)), (.long ((q2 + (4 : Int64)) + (lb.toInt64))), (.long (scanF [2 * lb.toInt.toNat] (begin_start q2) (0 : Int64) off (0 : Int64)))]))
            refine own_by (fun _ k => XS.ladd X30.here hx rfl (hb hby at_237) rfl k) ?_
            show OEnds p e below s _ _ _ (T30.setTop (mkF m 238 #[.val (.long q0), .second, .val (.int q1), .val (.long q2), .second, .val (.int q3), .val (.long q4), .second, .val (.int q5), .val (.int la), .val (.int lb), .val (.long off), .second, .val (.int oz), .val (.int hbv), .val (.int hzv), .val (.int oav), .val (.ref nb5), .val (.long (scanF [2 * lb.toInt.toNat] (begin_start q2) (0 : Int64) off (0 : Int64))), .second, .val (.long ((q2 + (4 : Int64)) + (lb.toInt64))), .second, .val (.long (0 : Int64)), .second] [(.long (((q2 + (4 : Int64)) + (lb.toInt64)) + (0 : Int64))), (.long (scanF [2 * lb.toInt.toNat] (begin_start q2) (0 : Int64) off (0 : Int64)))]))
            refine own_by (fun _ k => XS.lcmp X30.here hx rfl (hb hby at_238) rfl k) ?_
            show OEnds p e below s _ _ _ (T30.setTop (mkF m 239 #[.val (.long q0), .second, .val (.int q1), .val (.long q2), .second, .val (.int q3), .val (.long q4), .second, .val (.int q5), .val (.int la), .val (.int lb), .val (.long off), .second, .val (.int oz), .val (.int hbv), .val (.int hzv), .val (.int oav), .val (.ref nb5), .val (.long (scanF [2 * lb.toInt.toNat] (begin_start q2) (0 : Int64) off (0 : Int64))), .second, .val (.long ((q2 + (4 : Int64)) + (lb.toInt64))), .second, .val (.long (0 : Int64)), .second] [(.int (lcmpW (scanF [2 * lb.toInt.toNat] (begin_start q2) (0 : Int64) off (0 : Int64)) (((q2 + (4 : Int64)) + (lb.toInt64)) + (0 : Int64))))]))
            refine own_by (fun _ k => XS.ifNo X30.here hx rfl (hb hby at_239) rfl ((if0 _ _).trans (teq ((lw_eq _ _).mpr (pl_miss hlb hc182_31 (by decide)))).2) k) ?_
            show OEnds p e below s _ _ _ (T30.setTop (mkF m 242 #[.val (.long q0), .second, .val (.int q1), .val (.long q2), .second, .val (.int q3), .val (.long q4), .second, .val (.int q5), .val (.int la), .val (.int lb), .val (.long off), .second, .val (.int oz), .val (.int hbv), .val (.int hzv), .val (.int oav), .val (.ref nb5), .val (.long (scanF [2 * lb.toInt.toNat] (begin_start q2) (0 : Int64) off (0 : Int64))), .second, .val (.long ((q2 + (4 : Int64)) + (lb.toInt64))), .second, .val (.long (0 : Int64)), .second] []))
            refine own_by (fun _ k => XS.iconst X30.here hx rfl (hb hby at_242) k) ?_
            show OEnds p e below s _ _ _ (T30.setTop (mkF m 243 #[.val (.long q0), .second, .val (.int q1), .val (.long q2), .second, .val (.int q3), .val (.long q4), .second, .val (.int q5), .val (.int la), .val (.int lb), .val (.long off), .second, .val (.int oz), .val (.int hbv), .val (.int hzv), .val (.int oav), .val (.ref nb5), .val (.long (scanF [2 * lb.toInt.toNat] (begin_start q2) (0 : Int64) off (0 : Int64))), .second, .val (.long ((q2 + (4 : Int64)) + (lb.toInt64))), .second, .val (.long (0 : Int64)), .second] [(.int (1 : Int32))]))
            refine own_by (fun _ k => XS.goto X30.here hx rfl (pc0 := 243) (pc' := 247) rfl (hb hby at_243) (by decide) (by decide) k) ?_
            show OEnds p e below s _ _ _ (T30.setTop (mkF m 247 #[.val (.long q0), .second, .val (.int q1), .val (.long q2), .second, .val (.int q3), .val (.long q4), .second, .val (.int q5), .val (.int la), .val (.int lb), .val (.long off), .second, .val (.int oz), .val (.int hbv), .val (.int hzv), .val (.int oav), .val (.ref nb5), .val (.long (scanF [2 * lb.toInt.toNat] (begin_start q2) (0 : Int64) off (0 : Int64))), .second, .val (.long ((q2 + (4 : Int64)) + (lb.toInt64))), .second, .val (.long (0 : Int64)), .second] [(.int (1 : Int32))]))
            exact own_retN X30 hx hlk .boolean (by simp) Bd.returns (hb hby at_247) ⟨rfl, N27⟩ (by decide) (by decide)
        · refine own_by (fun _ k => XS.ifNo X27.here hx rfl (hb hby at_136) rfl ((if0 _ _).trans (feq hc136_29).1) k) ?_
          show OEnds p e below s _ _ _ (T27.setTop (mkF m 139 #[.val (.long q0), .second, .val (.int q1), .val (.long q2), .second, .val (.int q3), .val (.long q4), .second, .val (.int q5), .val (.int la), .val (.int lb), .val (.long off), .second, .val (.int oz), .val (.int hbv), .val (.int hzv), .val (.int oav), .val (.ref nb5), .unset, .unset, .unset, .unset, .unset, .unset] []))
          refine own_by (fun _ k => XS.aload X27.here hx rfl (hb hby at_139) rfl rfl k) ?_
          show OEnds p e below s _ _ _ (T27.setTop (mkF m 141 #[.val (.long q0), .second, .val (.int q1), .val (.long q2), .second, .val (.int q3), .val (.long q4), .second, .val (.int q5), .val (.int la), .val (.int lb), .val (.long off), .second, .val (.int oz), .val (.int hbv), .val (.int hzv), .val (.int oav), .val (.ref nb5), .unset, .unset, .unset, .unset, .unset, .unset] [(.ref nb5)]))
          refine own_by (fun _ k => XS.iconst X27.here hx rfl (hb hby at_141) k) ?_
          show OEnds p e below s _ _ _ (T27.setTop (mkF m 142 #[.val (.long q0), .second, .val (.int q1), .val (.long q2), .second, .val (.int q3), .val (.long q4), .second, .val (.int q5), .val (.int la), .val (.int lb), .val (.long off), .second, .val (.int oz), .val (.int hbv), .val (.int hzv), .val (.int oav), .val (.ref nb5), .unset, .unset, .unset, .unset, .unset, .unset] [(.int (0 : Int32)), (.ref nb5)]))
          obtain ⟨v32, T32, L32, h32, X32, e32, hQ32, st32⟩ := own_callV X27 hx hZ (y := (⟨"com/example/fourfold/fourfold/xdr/FragmentMap", "add", "(I)V"⟩ : MethodName)) hown (hw _ (List.mem_of_getElem? (i := 25) rfl)) (hw _ (List.mem_of_getElem? (i := 26) rfl)) (hw _ (List.mem_of_getElem? (i := 28) rfl)) (hw _ (List.mem_of_getElem? (i := 27) rfl)) (hw _ (List.mem_of_getElem? (i := 29) rfl)) (hw _ (List.mem_of_getElem? (i := 4) rfl)) (by decide) O27.exa (rm_addZ l Z a0 hw [] nb5 (0 : Int32) bf (begin_start q2) sz27 (0 : Int64) h27 n0 Z27 O27 g_nb5 rfl) e27 (g := (mkF m 142 #[.val (.long q0), .second, .val (.int q1), .val (.long q2), .second, .val (.int q3), .val (.long q4), .second, .val (.int q5), .val (.int la), .val (.int lb), .val (.long off), .second, .val (.int oz), .val (.int hbv), .val (.int hzv), .val (.int oav), .val (.ref nb5), .unset, .unset, .unset, .unset, .unset, .unset] [(.int (0 : Int32)), (.ref nb5)])) rfl (by rw [hml]; rfl) (argsL := [(.int (0 : Int32))]) (rest := []) (lenOf pd_pIrV rfl) rfl (W := 0) (by show 2 * 0 + _ ≤ _; exact Nat.le_of_eq rfl) (hb hby at_142) (by decide) (by decide) (by decide) (by decide)
          obtain ⟨rfl, Nq32, Kq32, O32⟩ := hQ32
          have N32 := Fr.app N27 Nq32
          have Z32 : n0 ≤ h32.size := Nat.le_trans Z27 Kq32.1
          refine own_tr st32 ?_
          show OEnds p e below s _ _ _ (T32.setTop (mkF m 145 #[.val (.long q0), .second, .val (.int q1), .val (.long q2), .second, .val (.int q3), .val (.long q4), .second, .val (.int q5), .val (.int la), .val (.int lb), .val (.long off), .second, .val (.int oz), .val (.int hbv), .val (.int hzv), .val (.int oav), .val (.ref nb5), .unset, .unset, .unset, .unset, .unset, .unset] []))
          refine own_by (fun _ k => XS.aload X32.here hx rfl (hb hby at_145) rfl rfl k) ?_
          show OEnds p e below s _ _ _ (T32.setTop (mkF m 147 #[.val (.long q0), .second, .val (.int q1), .val (.long q2), .second, .val (.int q3), .val (.long q4), .second, .val (.int q5), .val (.int la), .val (.int lb), .val (.long off), .second, .val (.int oz), .val (.int hbv), .val (.int hzv), .val (.int oav), .val (.ref nb5), .unset, .unset, .unset, .unset, .unset, .unset] [(.ref nb5)]))
          refine own_by (fun _ k => XS.lload X32.here hx rfl (hb hby at_147) rfl k) ?_
          show OEnds p e below s _ _ _ (T32.setTop (mkF m 149 #[.val (.long q0), .second, .val (.int q1), .val (.long q2), .second, .val (.int q3), .val (.long q4), .second, .val (.int q5), .val (.int la), .val (.int lb), .val (.long off), .second, .val (.int oz), .val (.int hbv), .val (.int hzv), .val (.int oav), .val (.ref nb5), .unset, .unset, .unset, .unset, .unset, .unset] [(.long off), (.ref nb5)]))
          have F34 : FA Z h32 bf .byte 16 (fun i => .int ((wrs cf 0 bs27) i)) := (F27.keep Kq32 (ninS (Ne.symm (O27.ne_fa (hw _ (List.mem_of_getElem? (i := 3) rfl)) F27)) nin0))
          obtain ⟨T33, X33, e33, st33⟩ := own_callR X32 hx hZ (y := (⟨"com/example/fourfold/fourfold/xdr/FragmentMap", "inStream", "(J)J"⟩ : MethodName)) hown (hw _ (List.mem_of_getElem? (i := 30) rfl)) (hw _ (List.mem_of_getElem? (i := 31) rfl)) (hw _ (List.mem_of_getElem? (i := 33) rfl)) (hw _ (List.mem_of_getElem? (i := 32) rfl)) (hw _ (List.mem_of_getElem? (i := 34) rfl)) (hw _ (List.mem_of_getElem? (i := 4) rfl)) (by decide) O32.exa (rm_inStream l Z a0 hw [] nb5 off bf (begin_start q2) sz27 (1 : Int64) (wrs cf 0 bs27) 16 (0 + bs27.length) [2 * lb.toInt.toNat] h32 n0 Z32 O32 F34 hsz27 (enc_one hE27 hbl27) (by omega) (by decide)) e32 (g := (mkF m 149 #[.val (.long q0), .second, .val (.int q1), .val (.long q2), .second, .val (.int q3), .val (.long q4), .second, .val (.int q5), .val (.int la), .val (.int lb), .val (.long off), .second, .val (.int oz), .val (.int hbv), .val (.int hzv), .val (.int oav), .val (.ref nb5), .unset, .unset, .unset, .unset, .unset, .unset] [(.long off), (.ref nb5)])) rfl (by rw [hml]; rfl) (argsL := [(.long off)]) (rest := []) (lenOf pd_pJrJ rfl) rfl (W := 0) (by show 2 * 0 + _ ≤ _; exact Nat.le_of_eq rfl) (hb hby at_149) (by decide) (by decide) (by decide) (by decide)
          refine own_by (st33) ?_
          show OEnds p e below s _ _ _ (T33.setTop (mkF m 152 #[.val (.long q0), .second, .val (.int q1), .val (.long q2), .second, .val (.int q3), .val (.long q4), .second, .val (.int q5), .val (.int la), .val (.int lb), .val (.long off), .second, .val (.int oz), .val (.int hbv), .val (.int hzv), .val (.int oav), .val (.ref nb5), .unset, .unset, .unset, .unset, .unset, .unset] [(.long (scanF [2 * lb.toInt.toNat] (begin_start q2) (0 : Int64) off (1 : Int64)))]))
          refine own_by (fun _ k => XS.lstore X33.here hx rfl (hb hby at_152) rfl (l' := #[.val (.long q0), .second, .val (.int q1), .val (.long q2), .second, .val (.int q3), .val (.long q4), .second, .val (.int q5), .val (.int la), .val (.int lb), .val (.long off), .second, .val (.int oz), .val (.int hbv), .val (.int hzv), .val (.int oav), .val (.ref nb5), .val (.long (scanF [2 * lb.toInt.toNat] (begin_start q2) (0 : Int64) off (1 : Int64))), .second, .unset, .unset, .unset, .unset]) rfl k) ?_
          show OEnds p e below s _ _ _ (T33.setTop (mkF m 154 #[.val (.long q0), .second, .val (.int q1), .val (.long q2), .second, .val (.int q3), .val (.long q4), .second, .val (.int q5), .val (.int la), .val (.int lb), .val (.long off), .second, .val (.int oz), .val (.int hbv), .val (.int hzv), .val (.int oav), .val (.ref nb5), .val (.long (scanF [2 * lb.toInt.toNat] (begin_start q2) (0 : Int64) off (1 : Int64))), .second, .unset, .unset, .unset, .unset] []))
          refine own_by (fun _ k => XS.lloadN X33.here hx rfl (hb hby at_154) rfl k) ?_
          show OEnds p e below s _ _ _ (T33.setTop (mkF m 155 #[.val (.long q0), .second, .val (.int q1), .val (.long q2), .second, .val (.int q3), .val (.long q4), .second, .val (.int q5), .val (.int la), .val (.int lb), .val (.long off), .second, .val (.int oz), .val (.int hbv), .val (.int hzv), .val (.int oav), .val (.ref nb5), .val (.long (scanF [2 * lb.toInt.toNat] (begin_start q2) (0 : Int64) off (1 : Int64))), .second, .unset, .unset, .unset, .unset] [(.long q2)]))
          refine own_by (fun _ k => XS.lstore X33.here hx rfl (hb hby at_155) rfl (l' := #[.val (.long q0), .second, .val (.int q1), .val (.long q2), .second, .val (.int q3), .val (.long q4), .second, .val (.int q5), .val (.int la), .val (.int lb), .val (.long off), .second, .val (.int oz), .val (.int hbv), .val (.int hzv), .val (.int oav), .val (.ref nb5), .val (.long (scanF [2 * lb.toInt.toNat] (begin_start q2) (0 : Int64) off (1 : Int64))), .second, .val (.long q2), .second, .unset, .unset]) rfl k) ?_
          show OEnds p e below s _ _ _ (T33.setTop (mkF m 157 #[.val (.long q0), .second, .val (.int q1), .val (.long q2), .second, .val (.int q3), .val (.long q4), .second, .val (.int q5), .val (.int la), .val (.int lb), .val (.long off), .second, .val (.int oz), .val (.int hbv), .val (.int hzv), .val (.int oav), .val (.ref nb5), .val (.long (scanF [2 * lb.toInt.toNat] (begin_start q2) (0 : Int64) off (1 : Int64))), .second, .val (.long q2), .second, .unset, .unset] []))
          refine own_by (fun _ k => XS.lconst X33.here hx rfl (hb hby at_157) k) ?_
          show OEnds p e below s _ _ _ (T33.setTop (mkF m 158 #[.val (.long q0), .second, .val (.int q1), .val (.long q2), .second, .val (.int q3), .val (.long q4), .second, .val (.int q5), .val (.int la), .val (.int lb), .val (.long off), .second, .val (.int oz), .val (.int hbv), .val (.int hzv), .val (.int oav), .val (.ref nb5), .val (.long (scanF [2 * lb.toInt.toNat] (begin_start q2) (0 : Int64) off (1 : Int64))), .second, .val (.long q2), .second, .unset, .unset] [(.long (0 : Int64))]))
          refine own_by (fun _ k => XS.lstore X33.here hx rfl (hb hby at_158) rfl (l' := #[.val (.long q0), .second, .val (.int q1), .val (.long q2), .second, .val (.int q3), .val (.long q4), .second, .val (.int q5), .val (.int la), .val (.int lb), .val (.long off), .second, .val (.int oz), .val (.int hbv), .val (.int hzv), .val (.int oav), .val (.ref nb5), .val (.long (scanF [2 * lb.toInt.toNat] (begin_start q2) (0 : Int64) off (1 : Int64))), .second, .val (.long q2), .second, .val (.long (0 : Int64)), .second]) rfl k) ?_
          show OEnds p e below s _ _ _ (T33.setTop (mkF m 160 #[.val (.long q0), .second, .val (.int q1), .val (.long q2), .second, .val (.int q3), .val (.long q4), .second, .val (.int q5), .val (.int la), .val (.int lb), .val (.long off), .second, .val (.int oz), .val (.int hbv), .val (.int hzv), .val (.int oav), .val (.ref nb5), .val (.long (scanF [2 * lb.toInt.toNat] (begin_start q2) (0 : Int64) off (1 : Int64))), .second, .val (.long q2), .second, .val (.long (0 : Int64)), .second] []))
          refine own_by (fun _ k => XS.iload X33.here hx rfl (hb hby at_160) rfl k) ?_
          show OEnds p e below s _ _ _ (T33.setTop (mkF m 162 #[.val (.long q0), .second, .val (.int q1), .val (.long q2), .second, .val (.int q3), .val (.long q4), .second, .val (.int q5), .val (.int la), .val (.int lb), .val (.long off), .second, .val (.int oz), .val (.int hbv), .val (.int hzv), .val (.int oav), .val (.ref nb5), .val (.long (scanF [2 * lb.toInt.toNat] (begin_start q2) (0 : Int64) off (1 : Int64))), .second, .val (.long q2), .second, .val (.long (0 : Int64)), .second] [(.int hbv)]))
          refine own_by (fun _ k => XS.ifNo X33.here hx rfl (hb hby at_162) rfl ((if0 _ _).trans (feq hc124_9).1) k) ?_
          show OEnds p e below s _ _ _ (T33.setTop (mkF m 165 #[.val (.long q0), .second, .val (.int q1), .val (.long q2), .second, .val (.int q3), .val (.long q4), .second, .val (.int q5), .val (.int la), .val (.int lb), .val (.long off), .second, .val (.int oz), .val (.int hbv), .val (.int hzv), .val (.int oav), .val (.ref nb5), .val (.long (scanF [2 * lb.toInt.toNat] (begin_start q2) (0 : Int64) off (1 : Int64))), .second, .val (.long q2), .second, .val (.long (0 : Int64)), .second] []))
          refine own_by (fun _ k => XS.iload X33.here hx rfl (hb hby at_165) rfl k) ?_
          show OEnds p e below s _ _ _ (T33.setTop (mkF m 167 #[.val (.long q0), .second, .val (.int q1), .val (.long q2), .second, .val (.int q3), .val (.long q4), .second, .val (.int q5), .val (.int la), .val (.int lb), .val (.long off), .second, .val (.int oz), .val (.int hbv), .val (.int hzv), .val (.int oav), .val (.ref nb5), .val (.long (scanF [2 * lb.toInt.toNat] (begin_start q2) (0 : Int64) off (1 : Int64))), .second, .val (.long q2), .second, .val (.long (0 : Int64)), .second] [(.int lb)]))
          refine own_by (fun _ k => XS.ifYes X33.here hx rfl (pc0 := 167) (pc' := 176) rfl (hb hby at_167) rfl ((if0 _ _).trans (feq hz17).2) (by decide) (by decide) k) ?_
          show OEnds p e below s _ _ _ (T33.setTop (mkF m 176 #[.val (.long q0), .second, .val (.int q1), .val (.long q2), .second, .val (.int q3), .val (.long q4), .second, .val (.int q5), .val (.int la), .val (.int lb), .val (.long off), .second, .val (.int oz), .val (.int hbv), .val (.int hzv), .val (.int oav), .val (.ref nb5), .val (.long (scanF [2 * lb.toInt.toNat] (begin_start q2) (0 : Int64) off (1 : Int64))), .second, .val (.long q2), .second, .val (.long (0 : Int64)), .second] []))
          refine own_by (fun _ k => XS.lload X33.here hx rfl (hb hby at_176) rfl k) ?_
          show OEnds p e below s _ _ _ (T33.setTop (mkF m 178 #[.val (.long q0), .second, .val (.int q1), .val (.long q2), .second, .val (.int q3), .val (.long q4), .second, .val (.int q5), .val (.int la), .val (.int lb), .val (.long off), .second, .val (.int oz), .val (.int hbv), .val (.int hzv), .val (.int oav), .val (.ref nb5), .val (.long (scanF [2 * lb.toInt.toNat] (begin_start q2) (0 : Int64) off (1 : Int64))), .second, .val (.long q2), .second, .val (.long (0 : Int64)), .second] [(.long off)]))
          refine own_by (fun _ k => XS.iload X33.here hx rfl (hb hby at_178) rfl k) ?_
          show OEnds p e below s _ _ _ (T33.setTop (mkF m 180 #[.val (.long q0), .second, .val (.int q1), .val (.long q2), .second, .val (.int q3), .val (.long q4), .second, .val (.int q5), .val (.int la), .val (.int lb), .val (.long off), .second, .val (.int oz), .val (.int hbv), .val (.int hzv), .val (.int oav), .val (.ref nb5), .val (.long (scanF [2 * lb.toInt.toNat] (begin_start q2) (0 : Int64) off (1 : Int64))), .second, .val (.long q2), .second, .val (.long (0 : Int64)), .second] [(.int lb), (.long off)]))
          refine own_by (fun _ k => XS.i2l X33.here hx rfl (hb hby at_180) rfl k) ?_
          show OEnds p e below s _ _ _ (T33.setTop (mkF m 181 #[.val (.long q0), .second, .val (.int q1), .val (.long q2), .second, .val (.int q3), .val (.long q4), .second, .val (.int q5), .val (.int la), .val (.int lb), .val (.long off), .second, .val (.int oz), .val (.int hbv), .val (.int hzv), .val (.int oav), .val (.ref nb5), .val (.long (scanF [2 * lb.toInt.toNat] (begin_start q2) (0 : Int64) off (1 : Int64))), .second, .val (.long q2), .second, .val (.long (0 : Int64)), .second] [(.long (lb.toInt64)), (.long off)]))
          refine own_by (fun _ k => XS.lcmp X33.here hx rfl (hb hby at_181) rfl k) ?_
          show OEnds p e below s _ _ _ (T33.setTop (mkF m 182 #[.val (.long q0), .second, .val (.int q1), .val (.long q2), .second, .val (.int q3), .val (.long q4), .second, .val (.int q5), .val (.int la), .val (.int lb), .val (.long off), .second, .val (.int oz), .val (.int hbv), .val (.int hzv), .val (.int oav), .val (.ref nb5), .val (.long (scanF [2 * lb.toInt.toNat] (begin_start q2) (0 : Int64) off (1 : Int64))), .second, .val (.long q2), .second, .val (.long (0 : Int64)), .second] [(.int (lcmpW off (lb.toInt64)))]))
          by_cases hc182_35 : off < (lb.toInt64)
          · refine own_by (fun _ k => XS.ifNo X33.here hx rfl (hb hby at_182) rfl ((if0 _ _).trans (tlt ((lw_lt _ _).mpr hc182_35)).2.1) k) ?_
            show OEnds p e below s _ _ _ (T33.setTop (mkF m 185 #[.val (.long q0), .second, .val (.int q1), .val (.long q2), .second, .val (.int q3), .val (.long q4), .second, .val (.int q5), .val (.int la), .val (.int lb), .val (.long off), .second, .val (.int oz), .val (.int hbv), .val (.int hzv), .val (.int oav), .val (.ref nb5), .val (.long (scanF [2 * lb.toInt.toNat] (begin_start q2) (0 : Int64) off (1 : Int64))), .second, .val (.long q2), .second, .val (.long (0 : Int64)), .second] []))
            refine own_by (fun _ k => XS.lload X33.here hx rfl (hb hby at_185) rfl k) ?_
            show OEnds p e below s _ _ _ (T33.setTop (mkF m 187 #[.val (.long q0), .second, .val (.int q1), .val (.long q2), .second, .val (.int q3), .val (.long q4), .second, .val (.int q5), .val (.int la), .val (.int lb), .val (.long off), .second, .val (.int oz), .val (.int hbv), .val (.int hzv), .val (.int oav), .val (.ref nb5), .val (.long (scanF [2 * lb.toInt.toNat] (begin_start q2) (0 : Int64) off (1 : Int64))), .second, .val (.long q2), .second, .val (.long (0 : Int64)), .second] [(.long (scanF [2 * lb.toInt.toNat] (begin_start q2) (0 : Int64) off (1 : Int64)))]))
            refine own_by (fun _ k => XS.lloadN X33.here hx rfl (hb hby at_187) rfl k) ?_
            show OEnds p e below s _ _ _ (T33.setTop (mkF m 188 #[.val (.long q0), .second, .val (.int q1), .val (.long q2), .second, .val (.int q3), .val (.long q4), .second, .val (.int q5), .val (.int la), .val (.int lb), .val (.long off), .second, .val (.int oz), .val (.int hbv), .val (.int hzv), .val (.int oav), .val (.ref nb5), .val (.long (scanF [2 * lb.toInt.toNat] (begin_start q2) (0 : Int64) off (1 : Int64))), .second, .val (.long q2), .second, .val (.long (0 : Int64)), .second] [(.long q2), (.long (scanF [2 * lb.toInt.toNat] (begin_start q2) (0 : Int64) off (1 : Int64)))]))
            refine own_by (X33.ldc2Long hx hown (mvT hZ (hw _ (List.mem_of_getElem? (i := 36) rfl))) (g := (mkF m 188 #[.val (.long q0), .second, .val (.int q1), .val (.long q2), .second, .val (.int q3), .val (.long q4), .second, .val (.int q5), .val (.int la), .val (.int lb), .val (.long off), .second, .val (.int oz), .val (.int hbv), .val (.int hzv), .val (.int oav), .val (.ref nb5), .val (.long (scanF [2 * lb.toInt.toNat] (begin_start q2) (0 : Int64) off (1 : Int64))), .second, .val (.long q2), .second, .val (.long (0 : Int64)), .second] [(.long q2), (.long (scanF [2 * lb.toInt.toNat] (begin_start q2) (0 : Int64) off (1 : Int64)))])) rfl (hb hby at_188)) ?_
            show OEnds p e below s _ _ _ (T33.setTop (mkF m 191 #[.val (.long q0), .second, .val (.int q1), .val (.long q2), .second, .val (.int q3), .val (.long q4), .second, .val (.int q5), .val (.int la), .val (.int lb), .val (.long off), .second, .val (.int oz), .val (.int hbv), .val (.int hzv), .val (.int oav), .val (.ref nb5), .val (.long (scanF [2 * lb.toInt.toNat] (begin_start q2) (0 : Int64) off (1 : Int64))), .second, .val (.long q2), .second, .val (.long (0 : Int64)), .second] [(.long (4 : Int64)), (.long q2), (.long (scanF [2 * lb.toInt.toNat] (begin_start q2) (0 : Int64) off (1 : Int64)))]))
            refine own_by (fun _ k => XS.ladd X33.here hx rfl (hb hby at_191) rfl k) ?_
            show OEnds p e below s _ _ _ (T33.setTop (mkF m 192 #[.val (.long q0), .second, .val (.int q1), .val (.long q2), .second, .val (.int q3), .val (.long q4), .second, .val (.int q5), .val (.int la), .val (.int lb), .val (.long off), .second, .val (.int oz), .val (.int hbv), .val (.int hzv), .val (.int oav), .val (.ref nb5), .val (.long (scanF [2 * lb.toInt.toNat] (begin_start q2) (0 : Int64) off (1 : Int64))), .second, .val (.long q2), .second, .val (.long (0 : Int64)), .second] [(.long (q2 + (4 : Int64))), (.long (scanF [2 * lb.toInt.toNat] (begin_start q2) (0 : Int64) off (1 : Int64)))]))
            refine own_by (fun _ k => XS.lload X33.here hx rfl (hb hby at_192) rfl k) ?_
            show OEnds p e below s _ _ _ (T33.setTop (mkF m 194 #[.val (.long q0), .second, .val (.int q1), .val (.long q2), .second, .val (.int q3), .val (.long q4), .second, .val (.int q5), .val (.int la), .val (.int lb), .val (.long off), .second, .val (.int oz), .val (.int hbv), .val (.int hzv), .val (.int oav), .val (.ref nb5), .val (.long (scanF [2 * lb.toInt.toNat] (begin_start q2) (0 : Int64) off (1 : Int64))), .second, .val (.long q2), .second, .val (.long (0 : Int64)), .second] [(.long off), (.long (q2 + (4 : Int64))), (.long (scanF [2 * lb.toInt.toNat] (begin_start q2) (0 : Int64) off (1 : Int64)))]))
            refine own_by (fun _ k => XS.ladd X33.here hx rfl (hb hby at_194) rfl k) ?_
            show OEnds p e below s _ _ _ (T33.setTop (mkF m 195 #[.val (.long q0), .second, .val (.int q1), .val (.long q2), .second, .val (.int q3), .val (.long q4), .second, .val (.int q5), .val (.int la), .val (.int lb), .val (.long off), .second, .val (.int oz), .val (.int hbv), .val (.int hzv), .val (.int oav), .val (.ref nb5), .val (.long (scanF [2 * lb.toInt.toNat] (begin_start q2) (0 : Int64) off (1 : Int64))), .second, .val (.long q2), .second, .val (.long (0 : Int64)), .second] [(.long ((q2 + (4 : Int64)) + off)), (.long (scanF [2 * lb.toInt.toNat] (begin_start q2) (0 : Int64) off (1 : Int64)))]))
            refine own_by (fun _ k => XS.lcmp X33.here hx rfl (hb hby at_195) rfl k) ?_
            show OEnds p e below s _ _ _ (T33.setTop (mkF m 196 #[.val (.long q0), .second, .val (.int q1), .val (.long q2), .second, .val (.int q3), .val (.long q4), .second, .val (.int q5), .val (.int la), .val (.int lb), .val (.long off), .second, .val (.int oz), .val (.int hbv), .val (.int hzv), .val (.int oav), .val (.ref nb5), .val (.long (scanF [2 * lb.toInt.toNat] (begin_start q2) (0 : Int64) off (1 : Int64))), .second, .val (.long q2), .second, .val (.long (0 : Int64)), .second] [(.int (lcmpW (scanF [2 * lb.toInt.toNat] (begin_start q2) (0 : Int64) off (1 : Int64)) ((q2 + (4 : Int64)) + off)))]))
            refine own_by (fun _ k => XS.ifNo X33.here hx rfl (hb hby at_196) rfl ((if0 _ _).trans (teq ((lw_eq _ _).mpr (pl_hit hlb hc182_35))).2) k) ?_
            show OEnds p e below s _ _ _ (T33.setTop (mkF m 199 #[.val (.long q0), .second, .val (.int q1), .val (.long q2), .second, .val (.int q3), .val (.long q4), .second, .val (.int q5), .val (.int la), .val (.int lb), .val (.long off), .second, .val (.int oz), .val (.int hbv), .val (.int hzv), .val (.int oav), .val (.ref nb5), .val (.long (scanF [2 * lb.toInt.toNat] (begin_start q2) (0 : Int64) off (1 : Int64))), .second, .val (.long q2), .second, .val (.long (0 : Int64)), .second] []))
            refine own_by (fun _ k => XS.iconst X33.here hx rfl (hb hby at_199) k) ?_
            show OEnds p e below s _ _ _ (T33.setTop (mkF m 200 #[.val (.long q0), .second, .val (.int q1), .val (.long q2), .second, .val (.int q3), .val (.long q4), .second, .val (.int q5), .val (.int la), .val (.int lb), .val (.long off), .second, .val (.int oz), .val (.int hbv), .val (.int hzv), .val (.int oav), .val (.ref nb5), .val (.long (scanF [2 * lb.toInt.toNat] (begin_start q2) (0 : Int64) off (1 : Int64))), .second, .val (.long q2), .second, .val (.long (0 : Int64)), .second] [(.int (1 : Int32))]))
            refine own_by (fun _ k => XS.goto X33.here hx rfl (pc0 := 200) (pc' := 204) rfl (hb hby at_200) (by decide) (by decide) k) ?_
            show OEnds p e below s _ _ _ (T33.setTop (mkF m 204 #[.val (.long q0), .second, .val (.int q1), .val (.long q2), .second, .val (.int q3), .val (.long q4), .second, .val (.int q5), .val (.int la), .val (.int lb), .val (.long off), .second, .val (.int oz), .val (.int hbv), .val (.int hzv), .val (.int oav), .val (.ref nb5), .val (.long (scanF [2 * lb.toInt.toNat] (begin_start q2) (0 : Int64) off (1 : Int64))), .second, .val (.long q2), .second, .val (.long (0 : Int64)), .second] [(.int (1 : Int32))]))
            exact own_retN X33 hx hlk .boolean (by simp) Bd.returns (hb hby at_204) ⟨rfl, N32⟩ (by decide) (by decide)
          · refine own_by (fun _ k => XS.ifYes X33.here hx rfl (pc0 := 182) (pc' := 205) rfl (hb hby at_182) rfl ((if0 _ _).trans (flt (fun q => hc182_35 ((lw_lt _ _).mp q))).2.1) (by decide) (by decide) k) ?_
            show OEnds p e below s _ _ _ (T33.setTop (mkF m 205 #[.val (.long q0), .second, .val (.int q1), .val (.long q2), .second, .val (.int q3), .val (.long q4), .second, .val (.int q5), .val (.int la), .val (.int lb), .val (.long off), .second, .val (.int oz), .val (.int hbv), .val (.int hzv), .val (.int oav), .val (.ref nb5), .val (.long (scanF [2 * lb.toInt.toNat] (begin_start q2) (0 : Int64) off (1 : Int64))), .second, .val (.long q2), .second, .val (.long (0 : Int64)), .second] []))
            refine own_by (fun _ k => XS.lloadN X33.here hx rfl (hb hby at_205) rfl k) ?_
            show OEnds p e below s _ _ _ (T33.setTop (mkF m 206 #[.val (.long q0), .second, .val (.int q1), .val (.long q2), .second, .val (.int q3), .val (.long q4), .second, .val (.int q5), .val (.int la), .val (.int lb), .val (.long off), .second, .val (.int oz), .val (.int hbv), .val (.int hzv), .val (.int oav), .val (.ref nb5), .val (.long (scanF [2 * lb.toInt.toNat] (begin_start q2) (0 : Int64) off (1 : Int64))), .second, .val (.long q2), .second, .val (.long (0 : Int64)), .second] [(.long q2)]))
            refine own_by (X33.ldc2Long hx hown (mvT hZ (hw _ (List.mem_of_getElem? (i := 36) rfl))) (g := (mkF m 206 #[.val (.long q0), .second, .val (.int q1), .val (.long q2), .second, .val (.int q3), .val (.long q4), .second, .val (.int q5), .val (.int la), .val (.int lb), .val (.long off), .second, .val (.int oz), .val (.int hbv), .val (.int hzv), .val (.int oav), .val (.ref nb5), .val (.long (scanF [2 * lb.toInt.toNat] (begin_start q2) (0 : Int64) off (1 : Int64))), .second, .val (.long q2), .second, .val (.long (0 : Int64)), .second] [(.long q2)])) rfl (hb hby at_206)) ?_
            show OEnds p e below s _ _ _ (T33.setTop (mkF m 209 #[.val (.long q0), .second, .val (.int q1), .val (.long q2), .second, .val (.int q3), .val (.long q4), .second, .val (.int q5), .val (.int la), .val (.int lb), .val (.long off), .second, .val (.int oz), .val (.int hbv), .val (.int hzv), .val (.int oav), .val (.ref nb5), .val (.long (scanF [2 * lb.toInt.toNat] (begin_start q2) (0 : Int64) off (1 : Int64))), .second, .val (.long q2), .second, .val (.long (0 : Int64)), .second] [(.long (4 : Int64)), (.long q2)]))
            refine own_by (fun _ k => XS.ladd X33.here hx rfl (hb hby at_209) rfl k) ?_
            show OEnds p e below s _ _ _ (T33.setTop (mkF m 210 #[.val (.long q0), .second, .val (.int q1), .val (.long q2), .second, .val (.int q3), .val (.long q4), .second, .val (.int q5), .val (.int la), .val (.int lb), .val (.long off), .second, .val (.int oz), .val (.int hbv), .val (.int hzv), .val (.int oav), .val (.ref nb5), .val (.long (scanF [2 * lb.toInt.toNat] (begin_start q2) (0 : Int64) off (1 : Int64))), .second, .val (.long q2), .second, .val (.long (0 : Int64)), .second] [(.long (q2 + (4 : Int64)))]))
            refine own_by (fun _ k => XS.iload X33.here hx rfl (hb hby at_210) rfl k) ?_
            show OEnds p e below s _ _ _ (T33.setTop (mkF m 212 #[.val (.long q0), .second, .val (.int q1), .val (.long q2), .second, .val (.int q3), .val (.long q4), .second, .val (.int q5), .val (.int la), .val (.int lb), .val (.long off), .second, .val (.int oz), .val (.int hbv), .val (.int hzv), .val (.int oav), .val (.ref nb5), .val (.long (scanF [2 * lb.toInt.toNat] (begin_start q2) (0 : Int64) off (1 : Int64))), .second, .val (.long q2), .second, .val (.long (0 : Int64)), .second] [(.int lb), (.long (q2 + (4 : Int64)))]))
            refine own_by (fun _ k => XS.i2l X33.here hx rfl (hb hby at_212) rfl k) ?_
            show OEnds p e below s _ _ _ (T33.setTop (mkF m 213 #[.val (.long q0), .second, .val (.int q1), .val (.long q2), .second, .val (.int q3), .val (.long q4), .second, .val (.int q5), .val (.int la), .val (.int lb), .val (.long off), .second, .val (.int oz), .val (.int hbv), .val (.int hzv), .val (.int oav), .val (.ref nb5), .val (.long (scanF [2 * lb.toInt.toNat] (begin_start q2) (0 : Int64) off (1 : Int64))), .second, .val (.long q2), .second, .val (.long (0 : Int64)), .second] [(.long (lb.toInt64)), (.long (q2 + (4 : Int64)))]))
            refine own_by (fun _ k => XS.ladd X33.here hx rfl (hb hby at_213) rfl k) ?_
            show OEnds p e below s _ _ _ (T33.setTop (mkF m 214 #[.val (.long q0), .second, .val (.int q1), .val (.long q2), .second, .val (.int q3), .val (.long q4), .second, .val (.int q5), .val (.int la), .val (.int lb), .val (.long off), .second, .val (.int oz), .val (.int hbv), .val (.int hzv), .val (.int oav), .val (.ref nb5), .val (.long (scanF [2 * lb.toInt.toNat] (begin_start q2) (0 : Int64) off (1 : Int64))), .second, .val (.long q2), .second, .val (.long (0 : Int64)), .second] [(.long ((q2 + (4 : Int64)) + (lb.toInt64)))]))
            refine own_by (fun _ k => XS.lstore X33.here hx rfl (hb hby at_214) rfl (l' := #[.val (.long q0), .second, .val (.int q1), .val (.long q2), .second, .val (.int q3), .val (.long q4), .second, .val (.int q5), .val (.int la), .val (.int lb), .val (.long off), .second, .val (.int oz), .val (.int hbv), .val (.int hzv), .val (.int oav), .val (.ref nb5), .val (.long (scanF [2 * lb.toInt.toNat] (begin_start q2) (0 : Int64) off (1 : Int64))), .second, .val (.long ((q2 + (4 : Int64)) + (lb.toInt64))), .second, .val (.long (0 : Int64)), .second]) rfl k) ?_
            show OEnds p e below s _ _ _ (T33.setTop (mkF m 216 #[.val (.long q0), .second, .val (.int q1), .val (.long q2), .second, .val (.int q3), .val (.long q4), .second, .val (.int q5), .val (.int la), .val (.int lb), .val (.long off), .second, .val (.int oz), .val (.int hbv), .val (.int hzv), .val (.int oav), .val (.ref nb5), .val (.long (scanF [2 * lb.toInt.toNat] (begin_start q2) (0 : Int64) off (1 : Int64))), .second, .val (.long ((q2 + (4 : Int64)) + (lb.toInt64))), .second, .val (.long (0 : Int64)), .second] []))
            refine own_by (fun _ k => XS.iload X33.here hx rfl (hb hby at_216) rfl k) ?_
            show OEnds p e below s _ _ _ (T33.setTop (mkF m 218 #[.val (.long q0), .second, .val (.int q1), .val (.long q2), .second, .val (.int q3), .val (.long q4), .second, .val (.int q5), .val (.int la), .val (.int lb), .val (.long off), .second, .val (.int oz), .val (.int hbv), .val (.int hzv), .val (.int oav), .val (.ref nb5), .val (.long (scanF [2 * lb.toInt.toNat] (begin_start q2) (0 : Int64) off (1 : Int64))), .second, .val (.long ((q2 + (4 : Int64)) + (lb.toInt64))), .second, .val (.long (0 : Int64)), .second] [(.int hzv)]))
            refine own_by (fun _ k => XS.ifNo X33.here hx rfl (hb hby at_218) rfl ((if0 _ _).trans (feq hc136_29).1) k) ?_
            show OEnds p e below s _ _ _ (T33.setTop (mkF m 221 #[.val (.long q0), .second, .val (.int q1), .val (.long q2), .second, .val (.int q3), .val (.long q4), .second, .val (.int q5), .val (.int la), .val (.int lb), .val (.long off), .second, .val (.int oz), .val (.int hbv), .val (.int hzv), .val (.int oav), .val (.ref nb5), .val (.long (scanF [2 * lb.toInt.toNat] (begin_start q2) (0 : Int64) off (1 : Int64))), .second, .val (.long ((q2 + (4 : Int64)) + (lb.toInt64))), .second, .val (.long (0 : Int64)), .second] []))
            refine own_by (fun _ k => XS.lload X33.here hx rfl (hb hby at_221) rfl k) ?_
            show OEnds p e below s _ _ _ (T33.setTop (mkF m 223 #[.val (.long q0), .second, .val (.int q1), .val (.long q2), .second, .val (.int q3), .val (.long q4), .second, .val (.int q5), .val (.int la), .val (.int lb), .val (.long off), .second, .val (.int oz), .val (.int hbv), .val (.int hzv), .val (.int oav), .val (.ref nb5), .val (.long (scanF [2 * lb.toInt.toNat] (begin_start q2) (0 : Int64) off (1 : Int64))), .second, .val (.long ((q2 + (4 : Int64)) + (lb.toInt64))), .second, .val (.long (0 : Int64)), .second] [(.long (0 : Int64))]))
            refine own_by (fun _ k => XS.lconst X33.here hx rfl (hb hby at_223) k) ?_
            show OEnds p e below s _ _ _ (T33.setTop (mkF m 224 #[.val (.long q0), .second, .val (.int q1), .val (.long q2), .second, .val (.int q3), .val (.long q4), .second, .val (.int q5), .val (.int la), .val (.int lb), .val (.long off), .second, .val (.int oz), .val (.int hbv), .val (.int hzv), .val (.int oav), .val (.ref nb5), .val (.long (scanF [2 * lb.toInt.toNat] (begin_start q2) (0 : Int64) off (1 : Int64))), .second, .val (.long ((q2 + (4 : Int64)) + (lb.toInt64))), .second, .val (.long (0 : Int64)), .second] [(.long (1 : Int64)), (.long (0 : Int64))]))
            refine own_by (fun _ k => XS.ladd X33.here hx rfl (hb hby at_224) rfl k) ?_
            show OEnds p e below s _ _ _ (T33.setTop (mkF m 225 #[.val (.long q0), .second, .val (.int q1), .val (.long q2), .second, .val (.int q3), .val (.long q4), .second, .val (.int q5), .val (.int la), .val (.int lb), .val (.long off), .second, .val (.int oz), .val (.int hbv), .val (.int hzv), .val (.int oav), .val (.ref nb5), .val (.long (scanF [2 * lb.toInt.toNat] (begin_start q2) (0 : Int64) off (1 : Int64))), .second, .val (.long ((q2 + (4 : Int64)) + (lb.toInt64))), .second, .val (.long (0 : Int64)), .second] [(.long (1 : Int64))]))
            refine own_by (fun _ k => XS.lstore X33.here hx rfl (hb hby at_225) rfl (l' := #[.val (.long q0), .second, .val (.int q1), .val (.long q2), .second, .val (.int q3), .val (.long q4), .second, .val (.int q5), .val (.int la), .val (.int lb), .val (.long off), .second, .val (.int oz), .val (.int hbv), .val (.int hzv), .val (.int oav), .val (.ref nb5), .val (.long (scanF [2 * lb.toInt.toNat] (begin_start q2) (0 : Int64) off (1 : Int64))), .second, .val (.long ((q2 + (4 : Int64)) + (lb.toInt64))), .second, .val (.long (1 : Int64)), .second]) rfl k) ?_
            show OEnds p e below s _ _ _ (T33.setTop (mkF m 227 #[.val (.long q0), .second, .val (.int q1), .val (.long q2), .second, .val (.int q3), .val (.long q4), .second, .val (.int q5), .val (.int la), .val (.int lb), .val (.long off), .second, .val (.int oz), .val (.int hbv), .val (.int hzv), .val (.int oav), .val (.ref nb5), .val (.long (scanF [2 * lb.toInt.toNat] (begin_start q2) (0 : Int64) off (1 : Int64))), .second, .val (.long ((q2 + (4 : Int64)) + (lb.toInt64))), .second, .val (.long (1 : Int64)), .second] []))
            refine own_by (fun _ k => XS.lload X33.here hx rfl (hb hby at_227) rfl k) ?_
            show OEnds p e below s _ _ _ (T33.setTop (mkF m 229 #[.val (.long q0), .second, .val (.int q1), .val (.long q2), .second, .val (.int q3), .val (.long q4), .second, .val (.int q5), .val (.int la), .val (.int lb), .val (.long off), .second, .val (.int oz), .val (.int hbv), .val (.int hzv), .val (.int oav), .val (.ref nb5), .val (.long (scanF [2 * lb.toInt.toNat] (begin_start q2) (0 : Int64) off (1 : Int64))), .second, .val (.long ((q2 + (4 : Int64)) + (lb.toInt64))), .second, .val (.long (1 : Int64)), .second] [(.long (scanF [2 * lb.toInt.toNat] (begin_start q2) (0 : Int64) off (1 : Int64)))]))
            refine own_by (fun _ k => XS.lload X33.here hx rfl (hb hby at_229) rfl k) ?_
            show OEnds p e below s _ _ _ (T33.setTop (mkF m 231 #[.val (.long q0), .second, .val (.int q1), .val (.long q2), .second, .val (.int q3), .val (.long q4), .second, .val (.int q5), .val (.int la), .val (.int lb), .val (.long off), .second, .val (.int oz), .val (.int hbv), .val (.int hzv), .val (.int oav), .val (.ref nb5), .val (.long (scanF [2 * lb.toInt.toNat] (begin_start q2) (0 : Int64) off (1 : Int64))), .second, .val (.long ((q2 + (4 : Int64)) + (lb.toInt64))), .second, .val (.long (1 : Int64)), .second] [(.long ((q2 + (4 : Int64)) + (lb.toInt64))), (.long (scanF [2 * lb.toInt.toNat] (begin_start q2) (0 : Int64) off (1 : Int64)))]))
            refine own_by (X33.ldc2Long hx hown (mvT hZ (hw _ (List.mem_of_getElem? (i := 36) rfl))) (g := (mkF m 231 #[.val (.long q0), .second, .val (.int q1), .val (.long q2), .second, .val (.int q3), .val (.long q4), .second, .val (.int q5), .val (.int la), .val (.int lb), .val (.long off), .second, .val (.int oz), .val (.int hbv), .val (.int hzv), .val (.int oav), .val (.ref nb5), .val (.long (scanF [2 * lb.toInt.toNat] (begin_start q2) (0 : Int64) off (1 : Int64))), .second, .val (.long ((q2 + (4 : Int64)) + (lb.toInt64))), .second, .val (.long (1 : Int64)), .second] [(.long ((q2 + (4 : Int64)) + (lb.toInt64))), (.long (scanF [2 * lb.toInt.toNat] (begin_start q2) (0 : Int64) off (1 : Int64)))])) rfl (hb hby at_231)) ?_
            show OEnds p e below s _ _ _ (T33.setTop (mkF m 234 #[.val (.long q0), .second, .val (.int q1), .val (.long q2), .second, .val (.int q3), .val (.long q4), .second, .val (.int q5), .val (.int la), .val (.int lb), .val (.long off), .second, .val (.int oz), .val (.int hbv), .val (.int hzv), .val (.int oav), .val (.ref nb5), .val (.long (scanF [2 * lb.toInt.toNat] (begin_start q2) (0 : Int64) off (1 : Int64))), .second, .val (.long ((q2 + (4 : Int64)) + (lb.toInt64))), .second, .val (.long (1 : Int64)), .second] [(.long (4 : Int64)), (.long ((q2 + (4 : Int64)) + (lb.toInt64))), (.long (scanF [2 * lb.toInt.toNat] (begin_start q2) (0 : Int64) off (1 : Int64)))]))
            refine own_by (fun _ k => XS.lload X33.here hx rfl (hb hby at_234) rfl k) ?_
            show OEnds p e below s _ _ _ (T33.setTop (mkF m 236 #[.val (.long q0), .second, .val (.int q1), .val (.long q2), .second, .val (.int q3), .val (.long q4), .second, .val (.int q5), .val (.int la), .val (.int lb), .val (.long off), .second, .val (.int oz), .val (.int hbv), .val (.int hzv), .val (.int oav), .val (.ref nb5), .val (.long (scanF [2 * lb.toInt.toNat] (begin_start q2) (0 : Int64) off (1 : Int64))), .second, .val (.long ((q2 + (4 : Int64)) + (lb.toInt64))), .second, .val (.long (1 : Int64)), .second] [(.long (1 : Int64)), (.long (4 : Int64)), (.long ((q2 + (4 : Int64)) + (lb.toInt64))), (.long (scanF [2 * lb.toInt.toNat] (begin_start q2) (0 : Int64) off (1 : Int64)))]))
            refine own_by (fun _ k => XS.lmul X33.here hx rfl (hb hby at_236) rfl k) ?_
            show OEnds p e below s _ _ _ (T33.setTop (mkF m 237 #[.val (.long q0), .second, .val (.int q1), .val (.long q2), .second, .val (.int q3), .val (.long q4), .second, .val (.int q5), .val (.int la), .val (.int lb), .val (.long off), .second, .val (.int oz), .val (.int hbv), .val (.int hzv), .val (.int oav), .val (.ref nb5), .val (.long (scanF [2 * lb.toInt.toNat] (begin_start q2) (0 : Int64) off (1 : Int64))), .second, .val (.long ((q2 + (4 : Int64)) + (lb.toInt64))), .second, .val (.long (1 : Int64)), .second] [(.long (4 : Int64)), (.long ((q2 + (4 : Int64)) + (lb.toInt64))), (.long (scanF [2 * lb.toInt.toNat] (begin_start q2) (0 : Int64) off (1 : Int64)))]))
            refine own_by (fun _ k => XS.ladd X33.here hx rfl (hb hby at_237) rfl k) ?_
            show OEnds p e below s _ _ _ (T33.setTop (mkF m 238 #[.val (.long q0), .second, .val (.int q1), .val (.long q2), .second, .val (.int q3), .val (.long q4), .second, .val (.int q5), .val (.int la), .val (.int lb), .val (.long off), .second, .val (.int oz), .val (.int hbv), .val (.int hzv), .val (.int oav), .val (.ref nb5), .val (.long (scanF [2 * lb.toInt.toNat] (begin_start q2) (0 : Int64) off (1 : Int64))), .second, .val (.long ((q2 + (4 : Int64)) + (lb.toInt64))), .second, .val (.long (1 : Int64)), .second] [(.long (((q2 + (4 : Int64)) + (lb.toInt64)) + (4 : Int64))), (.long (scanF [2 * lb.toInt.toNat] (begin_start q2) (0 : Int64) off (1 : Int64)))]))
            refine own_by (fun _ k => XS.lcmp X33.here hx rfl (hb hby at_238) rfl k) ?_
            show OEnds p e below s _ _ _ (T33.setTop (mkF m 239 #[.val (.long q0), .second, .val (.int q1), .val (.long q2), .second, .val (.int q3), .val (.long q4), .second, .val (.int q5), .val (.int la), .val (.int lb), .val (.long off), .second, .val (.int oz), .val (.int hbv), .val (.int hzv), .val (.int oav), .val (.ref nb5), .val (.long (scanF [2 * lb.toInt.toNat] (begin_start q2) (0 : Int64) off (1 : Int64))), .second, .val (.long ((q2 + (4 : Int64)) + (lb.toInt64))), .second, .val (.long (1 : Int64)), .second] [(.int (lcmpW (scanF [2 * lb.toInt.toNat] (begin_start q2) (0 : Int64) off (1 : Int64)) (((q2 + (4 : Int64)) + (lb.toInt64)) + (4 : Int64))))]))
            refine own_by (fun _ k => XS.ifNo X33.here hx rfl (hb hby at_239) rfl ((if0 _ _).trans (teq ((lw_eq _ _).mpr (pl_miss hlb hc182_35 (by decide)))).2) k) ?_
            show OEnds p e below s _ _ _ (T33.setTop (mkF m 242 #[.val (.long q0), .second, .val (.int q1), .val (.long q2), .second, .val (.int q3), .val (.long q4), .second, .val (.int q5), .val (.int la), .val (.int lb), .val (.long off), .second, .val (.int oz), .val (.int hbv), .val (.int hzv), .val (.int oav), .val (.ref nb5), .val (.long (scanF [2 * lb.toInt.toNat] (begin_start q2) (0 : Int64) off (1 : Int64))), .second, .val (.long ((q2 + (4 : Int64)) + (lb.toInt64))), .second, .val (.long (1 : Int64)), .second] []))
            refine own_by (fun _ k => XS.iconst X33.here hx rfl (hb hby at_242) k) ?_
            show OEnds p e below s _ _ _ (T33.setTop (mkF m 243 #[.val (.long q0), .second, .val (.int q1), .val (.long q2), .second, .val (.int q3), .val (.long q4), .second, .val (.int q5), .val (.int la), .val (.int lb), .val (.long off), .second, .val (.int oz), .val (.int hbv), .val (.int hzv), .val (.int oav), .val (.ref nb5), .val (.long (scanF [2 * lb.toInt.toNat] (begin_start q2) (0 : Int64) off (1 : Int64))), .second, .val (.long ((q2 + (4 : Int64)) + (lb.toInt64))), .second, .val (.long (1 : Int64)), .second] [(.int (1 : Int32))]))
            refine own_by (fun _ k => XS.goto X33.here hx rfl (pc0 := 243) (pc' := 247) rfl (hb hby at_243) (by decide) (by decide) k) ?_
            show OEnds p e below s _ _ _ (T33.setTop (mkF m 247 #[.val (.long q0), .second, .val (.int q1), .val (.long q2), .second, .val (.int q3), .val (.long q4), .second, .val (.int q5), .val (.int la), .val (.int lb), .val (.long off), .second, .val (.int oz), .val (.int hbv), .val (.int hzv), .val (.int oav), .val (.ref nb5), .val (.long (scanF [2 * lb.toInt.toNat] (begin_start q2) (0 : Int64) off (1 : Int64))), .second, .val (.long ((q2 + (4 : Int64)) + (lb.toInt64))), .second, .val (.long (1 : Int64)), .second] [(.int (1 : Int32))]))
            exact own_retN X33 hx hlk .boolean (by simp) Bd.returns (hb hby at_247) ⟨rfl, N32⟩ (by decide) (by decide)
  show OEnds p e below s _ _ _ (T7.setTop (mkF m 93 #[.val (.long q0), .second, .val (.int q1), .val (.long q2), .second, .val (.int q3), .val (.long q4), .second, .val (.int q5), .val (.int la), .val (.int lb), .val (.long off), .second, .val (.int oz), .val (.int hbv), .val (.int hzv), .val (.int oav), .val (.ref nb5), .unset, .unset, .unset, .unset, .unset, .unset] []))
  refine own_by (fun _ k => XS.iload X7.here hx rfl (hb hby at_93) rfl k) ?_
  show OEnds p e below s _ _ _ (T7.setTop (mkF m 95 #[.val (.long q0), .second, .val (.int q1), .val (.long q2), .second, .val (.int q3), .val (.long q4), .second, .val (.int q5), .val (.int la), .val (.int lb), .val (.long off), .second, .val (.int oz), .val (.int hbv), .val (.int hzv), .val (.int oav), .val (.ref nb5), .unset, .unset, .unset, .unset, .unset, .unset] [(.int oav)]))
  by_cases hc95_36 : oav = (0 : Int32)
  · refine own_by (fun _ k => XS.ifYes X7.here hx rfl (pc0 := 95) (pc' := 105) rfl (hb hby at_95) rfl ((if0 _ _).trans (teq hc95_36).1) (by decide) (by decide) k) ?_
    show OEnds p e below s _ _ _ (T7.setTop (mkF m 105 #[.val (.long q0), .second, .val (.int q1), .val (.long q2), .second, .val (.int q3), .val (.long q4), .second, .val (.int q5), .val (.int la), .val (.int lb), .val (.long off), .second, .val (.int oz), .val (.int hbv), .val (.int hzv), .val (.int oav), .val (.ref nb5), .unset, .unset, .unset, .unset, .unset, .unset] []))
    refine own_by (fun _ k => XS.iload X7.here hx rfl (hb hby at_105) rfl k) ?_
    show OEnds p e below s _ _ _ (T7.setTop (mkF m 107 #[.val (.long q0), .second, .val (.int q1), .val (.long q2), .second, .val (.int q3), .val (.long q4), .second, .val (.int q5), .val (.int la), .val (.int lb), .val (.long off), .second, .val (.int oz), .val (.int hbv), .val (.int hzv), .val (.int oav), .val (.ref nb5), .unset, .unset, .unset, .unset, .unset, .unset] [(.int oz)]))
    by_cases hc107_37 : oz = (0 : Int32)
    · refine own_by (fun _ k => XS.ifYes X7.here hx rfl (pc0 := 107) (pc' := 116) rfl (hb hby at_107) rfl ((if0 _ _).trans (teq hc107_37).1) (by decide) (by decide) k) ?_
      show OEnds p e below s _ _ _ (T7.setTop (mkF m 116 #[.val (.long q0), .second, .val (.int q1), .val (.long q2), .second, .val (.int q3), .val (.long q4), .second, .val (.int q5), .val (.int la), .val (.int lb), .val (.long off), .second, .val (.int oz), .val (.int hbv), .val (.int hzv), .val (.int oav), .val (.ref nb5), .unset, .unset, .unset, .unset, .unset, .unset] []))
      have F38 : FA Z h7 bf .byte 16 (fun i => .int ((fun _ => (0 : Int32)) i)) := (F6.keep Kq7 (ninS (Ne.symm (O6.ne_fa (hw _ (List.mem_of_getElem? (i := 3) rfl)) F6)) nin0))
      exact bl116 T7 _ begin_size begin_empty (fun _ => (0 : Int32)) h7 Z7 X7 e7 N7 O7 F38
    · refine own_by (fun _ k => XS.ifNo X7.here hx rfl (hb hby at_107) rfl ((if0 _ _).trans (feq hc107_37).1) k) ?_
      show OEnds p e below s _ _ _ (T7.setTop (mkF m 110 #[.val (.long q0), .second, .val (.int q1), .val (.long q2), .second, .val (.int q3), .val (.long q4), .second, .val (.int q5), .val (.int la), .val (.int lb), .val (.long off), .second, .val (.int oz), .val (.int hbv), .val (.int hzv), .val (.int oav), .val (.ref nb5), .unset, .unset, .unset, .unset, .unset, .unset] []))
      refine own_by (fun _ k => XS.aload X7.here hx rfl (hb hby at_110) rfl rfl k) ?_
      show OEnds p e below s _ _ _ (T7.setTop (mkF m 112 #[.val (.long q0), .second, .val (.int q1), .val (.long q2), .second, .val (.int q3), .val (.long q4), .second, .val (.int q5), .val (.int la), .val (.int lb), .val (.long off), .second, .val (.int oz), .val (.int hbv), .val (.int hzv), .val (.int oav), .val (.ref nb5), .unset, .unset, .unset, .unset, .unset, .unset] [(.ref nb5)]))
      refine own_by (fun _ k => XS.iconst X7.here hx rfl (hb hby at_112) k) ?_
      show OEnds p e below s _ _ _ (T7.setTop (mkF m 113 #[.val (.long q0), .second, .val (.int q1), .val (.long q2), .second, .val (.int q3), .val (.long q4), .second, .val (.int q5), .val (.int la), .val (.int lb), .val (.long off), .second, .val (.int oz), .val (.int hbv), .val (.int hzv), .val (.int oav), .val (.ref nb5), .unset, .unset, .unset, .unset, .unset, .unset] [(.int (0 : Int32)), (.ref nb5)]))
      obtain ⟨v39, T39, L39, h39, X39, e39, hQ39, st39⟩ := own_callV X7 hx hZ (y := (⟨"com/example/fourfold/fourfold/xdr/FragmentMap", "add", "(I)V"⟩ : MethodName)) hown (hw _ (List.mem_of_getElem? (i := 25) rfl)) (hw _ (List.mem_of_getElem? (i := 26) rfl)) (hw _ (List.mem_of_getElem? (i := 28) rfl)) (hw _ (List.mem_of_getElem? (i := 27) rfl)) (hw _ (List.mem_of_getElem? (i := 29) rfl)) (hw _ (List.mem_of_getElem? (i := 4) rfl)) (by decide) O7.exa (rm_addZ l Z a0 hw [] nb5 (0 : Int32) bf (begin_start q0) begin_size begin_empty h7 n0 Z7 O7 g_nb5 rfl) e7 (g := (mkF m 113 #[.val (.long q0), .second, .val (.int q1), .val (.long q2), .second, .val (.int q3), .val (.long q4), .second, .val (.int q5), .val (.int la), .val (.int lb), .val (.long off), .second, .val (.int oz), .val (.int hbv), .val (.int hzv), .val (.int oav), .val (.ref nb5), .unset, .unset, .unset, .unset, .unset, .unset] [(.int (0 : Int32)), (.ref nb5)])) rfl (by rw [hml]; rfl) (argsL := [(.int (0 : Int32))]) (rest := []) (lenOf pd_pIrV rfl) rfl (W := 0) (by show 2 * 0 + _ ≤ _; exact Nat.le_of_eq rfl) (hb hby at_113) (by decide) (by decide) (by decide) (by decide)
      obtain ⟨rfl, Nq39, Kq39, O39⟩ := hQ39
      have F40 : FA Z h7 bf .byte 16 (fun i => .int ((fun _ => (0 : Int32)) i)) := (F6.keep Kq7 (ninS (Ne.symm (O6.ne_fa (hw _ (List.mem_of_getElem? (i := 3) rfl)) F6)) nin0))
      have N39 := Fr.app N7 Nq39
      have Z39 : n0 ≤ h39.size := Nat.le_trans Z7 Kq39.1
      refine own_tr st39 ?_
      show OEnds p e below s _ _ _ (T39.setTop (mkF m 116 #[.val (.long q0), .second, .val (.int q1), .val (.long q2), .second, .val (.int q3), .val (.long q4), .second, .val (.int q5), .val (.int la), .val (.int lb), .val (.long off), .second, .val (.int oz), .val (.int hbv), .val (.int hzv), .val (.int oav), .val (.ref nb5), .unset, .unset, .unset, .unset, .unset, .unset] []))
      have F41 : FA Z h39 bf .byte 16 (fun i => .int ((fun _ => (0 : Int32)) i)) := (F40.keep Kq39 (ninS (Ne.symm (O7.ne_fa (hw _ (List.mem_of_getElem? (i := 3) rfl)) F40)) nin0))
      exact bl116 T39 _ begin_size (begin_empty + (1 : Int64)) (fun _ => (0 : Int32)) h39 Z39 X39 e39 N39 O39 F41
  · refine own_by (fun _ k => XS.ifNo X7.here hx rfl (hb hby at_95) rfl ((if0 _ _).trans (feq hc95_36).1) k) ?_
    show OEnds p e below s _ _ _ (T7.setTop (mkF m 98 #[.val (.long q0), .second, .val (.int q1), .val (.long q2), .second, .val (.int q3), .val (.long q4), .second, .val (.int q5), .val (.int la), .val (.int lb), .val (.long off), .second, .val (.int oz), .val (.int hbv), .val (.int hzv), .val (.int oav), .val (.ref nb5), .unset, .unset, .unset, .unset, .unset, .unset] []))
    by_cases hz42 : la = (0 : Int32)
    · show OEnds p e below s _ _ _ (T7.setTop (mkF m 98 #[.val (.long q0), .second, .val (.int q1), .val (.long q2), .second, .val (.int q3), .val (.long q4), .second, .val (.int q5), .val (.int la), .val (.int lb), .val (.long off), .second, .val (.int oz), .val (.int hbv), .val (.int hzv), .val (.int oav), .val (.ref nb5), .unset, .unset, .unset, .unset, .unset, .unset] []))
      refine own_by (fun _ k => XS.aload X7.here hx rfl (hb hby at_98) rfl rfl k) ?_
      show OEnds p e below s _ _ _ (T7.setTop (mkF m 100 #[.val (.long q0), .second, .val (.int q1), .val (.long q2), .second, .val (.int q3), .val (.long q4), .second, .val (.int q5), .val (.int la), .val (.int lb), .val (.long off), .second, .val (.int oz), .val (.int hbv), .val (.int hzv), .val (.int oav), .val (.ref nb5), .unset, .unset, .unset, .unset, .unset, .unset] [(.ref nb5)]))
      refine own_by (fun _ k => XS.iload X7.here hx rfl (hb hby at_100) rfl k) ?_
      show OEnds p e below s _ _ _ (T7.setTop (mkF m 102 #[.val (.long q0), .second, .val (.int q1), .val (.long q2), .second, .val (.int q3), .val (.long q4), .second, .val (.int q5), .val (.int la), .val (.int lb), .val (.long off), .second, .val (.int oz), .val (.int hbv), .val (.int hzv), .val (.int oav), .val (.ref nb5), .unset, .unset, .unset, .unset, .unset, .unset] [(.int la), (.ref nb5)]))
      obtain ⟨v43, T43, L43, h43, X43, e43, hQ43, st43⟩ := own_callV X7 hx hZ (y := (⟨"com/example/fourfold/fourfold/xdr/FragmentMap", "add", "(I)V"⟩ : MethodName)) hown (hw _ (List.mem_of_getElem? (i := 25) rfl)) (hw _ (List.mem_of_getElem? (i := 26) rfl)) (hw _ (List.mem_of_getElem? (i := 28) rfl)) (hw _ (List.mem_of_getElem? (i := 27) rfl)) (hw _ (List.mem_of_getElem? (i := 29) rfl)) (hw _ (List.mem_of_getElem? (i := 4) rfl)) (by decide) O7.exa (rm_addZ l Z a0 hw [] nb5 la bf (begin_start q0) begin_size begin_empty h7 n0 Z7 O7 g_nb5 hz42) e7 (g := (mkF m 102 #[.val (.long q0), .second, .val (.int q1), .val (.long q2), .second, .val (.int q3), .val (.long q4), .second, .val (.int q5), .val (.int la), .val (.int lb), .val (.long off), .second, .val (.int oz), .val (.int hbv), .val (.int hzv), .val (.int oav), .val (.ref nb5), .unset, .unset, .unset, .unset, .unset, .unset] [(.int la), (.ref nb5)])) rfl (by rw [hml]; rfl) (argsL := [(.int la)]) (rest := []) (lenOf pd_pIrV rfl) rfl (W := 0) (by show 2 * 0 + _ ≤ _; exact Nat.le_of_eq rfl) (hb hby at_102) (by decide) (by decide) (by decide) (by decide)
      obtain ⟨rfl, Nq43, Kq43, O43⟩ := hQ43
      have F44 : FA Z h7 bf .byte 16 (fun i => .int ((fun _ => (0 : Int32)) i)) := (F6.keep Kq7 (ninS (Ne.symm (O6.ne_fa (hw _ (List.mem_of_getElem? (i := 3) rfl)) F6)) nin0))
      have N43 := Fr.app N7 Nq43
      have Z43 : n0 ≤ h43.size := Nat.le_trans Z7 Kq43.1
      refine own_tr st43 ?_
      show OEnds p e below s _ _ _ (T43.setTop (mkF m 105 #[.val (.long q0), .second, .val (.int q1), .val (.long q2), .second, .val (.int q3), .val (.long q4), .second, .val (.int q5), .val (.int la), .val (.int lb), .val (.long off), .second, .val (.int oz), .val (.int hbv), .val (.int hzv), .val (.int oav), .val (.ref nb5), .unset, .unset, .unset, .unset, .unset, .unset] []))
      refine own_by (fun _ k => XS.iload X43.here hx rfl (hb hby at_105) rfl k) ?_
      show OEnds p e below s _ _ _ (T43.setTop (mkF m 107 #[.val (.long q0), .second, .val (.int q1), .val (.long q2), .second, .val (.int q3), .val (.long q4), .second, .val (.int q5), .val (.int la), .val (.int lb), .val (.long off), .second, .val (.int oz), .val (.int hbv), .val (.int hzv), .val (.int oav), .val (.ref nb5), .unset, .unset, .unset, .unset, .unset, .unset] [(.int oz)]))
      by_cases hc107_45 : oz = (0 : Int32)
      · refine own_by (fun _ k => XS.ifYes X43.here hx rfl (pc0 := 107) (pc' := 116) rfl (hb hby at_107) rfl ((if0 _ _).trans (teq hc107_45).1) (by decide) (by decide) k) ?_
        show OEnds p e below s _ _ _ (T43.setTop (mkF m 116 #[.val (.long q0), .second, .val (.int q1), .val (.long q2), .second, .val (.int q3), .val (.long q4), .second, .val (.int q5), .val (.int la), .val (.int lb), .val (.long off), .second, .val (.int oz), .val (.int hbv), .val (.int hzv), .val (.int oav), .val (.ref nb5), .unset, .unset, .unset, .unset, .unset, .unset] []))
        have F46 : FA Z h43 bf .byte 16 (fun i => .int ((fun _ => (0 : Int32)) i)) := (F44.keep Kq43 (ninS (Ne.symm (O7.ne_fa (hw _ (List.mem_of_getElem? (i := 3) rfl)) F44)) nin0))
        exact bl116 T43 _ begin_size (begin_empty + (1 : Int64)) (fun _ => (0 : Int32)) h43 Z43 X43 e43 N43 O43 F46
      · refine own_by (fun _ k => XS.ifNo X43.here hx rfl (hb hby at_107) rfl ((if0 _ _).trans (feq hc107_45).1) k) ?_
        show OEnds p e below s _ _ _ (T43.setTop (mkF m 110 #[.val (.long q0), .second, .val (.int q1), .val (.long q2), .second, .val (.int q3), .val (.long q4), .second, .val (.int q5), .val (.int la), .val (.int lb), .val (.long off), .second, .val (.int oz), .val (.int hbv), .val (.int hzv), .val (.int oav), .val (.ref nb5), .unset, .unset, .unset, .unset, .unset, .unset] []))
        refine own_by (fun _ k => XS.aload X43.here hx rfl (hb hby at_110) rfl rfl k) ?_
        show OEnds p e below s _ _ _ (T43.setTop (mkF m 112 #[.val (.long q0), .second, .val (.int q1), .val (.long q2), .second, .val (.int q3), .val (.long q4), .second, .val (.int q5), .val (.int la), .val (.int lb), .val (.long off), .second, .val (.int oz), .val (.int hbv), .val (.int hzv), .val (.int oav), .val (.ref nb5), .unset, .unset, .unset, .unset, .unset, .unset] [(.ref nb5)]))
        refine own_by (fun _ k => XS.iconst X43.here hx rfl (hb hby at_112) k) ?_
        show OEnds p e below s _ _ _ (T43.setTop (mkF m 113 #[.val (.long q0), .second, .val (.int q1), .val (.long q2), .second, .val (.int q3), .val (.long q4), .second, .val (.int q5), .val (.int la), .val (.int lb), .val (.long off), .second, .val (.int oz), .val (.int hbv), .val (.int hzv), .val (.int oav), .val (.ref nb5), .unset, .unset, .unset, .unset, .unset, .unset] [(.int (0 : Int32)), (.ref nb5)]))
        obtain ⟨v47, T47, L47, h47, X47, e47, hQ47, st47⟩ := own_callV X43 hx hZ (y := (⟨"com/example/fourfold/fourfold/xdr/FragmentMap", "add", "(I)V"⟩ : MethodName)) hown (hw _ (List.mem_of_getElem? (i := 25) rfl)) (hw _ (List.mem_of_getElem? (i := 26) rfl)) (hw _ (List.mem_of_getElem? (i := 28) rfl)) (hw _ (List.mem_of_getElem? (i := 27) rfl)) (hw _ (List.mem_of_getElem? (i := 29) rfl)) (hw _ (List.mem_of_getElem? (i := 4) rfl)) (by decide) O43.exa (rm_addZ l Z a0 hw [] nb5 (0 : Int32) bf (begin_start q0) begin_size (begin_empty + (1 : Int64)) h43 n0 Z43 O43 g_nb5 rfl) e43 (g := (mkF m 113 #[.val (.long q0), .second, .val (.int q1), .val (.long q2), .second, .val (.int q3), .val (.long q4), .second, .val (.int q5), .val (.int la), .val (.int lb), .val (.long off), .second, .val (.int oz), .val (.int hbv), .val (.int hzv), .val (.int oav), .val (.ref nb5), .unset, .unset, .unset, .unset, .unset, .unset] [(.int (0 : Int32)), (.ref nb5)])) rfl (by rw [hml]; rfl) (argsL := [(.int (0 : Int32))]) (rest := []) (lenOf pd_pIrV rfl) rfl (W := 0) (by show 2 * 0 + _ ≤ _; exact Nat.le_of_eq rfl) (hb hby at_113) (by decide) (by decide) (by decide) (by decide)
        obtain ⟨rfl, Nq47, Kq47, O47⟩ := hQ47
        have F48 : FA Z h43 bf .byte 16 (fun i => .int ((fun _ => (0 : Int32)) i)) := (F44.keep Kq43 (ninS (Ne.symm (O7.ne_fa (hw _ (List.mem_of_getElem? (i := 3) rfl)) F44)) nin0))
        have N47 := Fr.app N43 Nq47
        have Z47 : n0 ≤ h47.size := Nat.le_trans Z43 Kq47.1
        refine own_tr st47 ?_
        show OEnds p e below s _ _ _ (T47.setTop (mkF m 116 #[.val (.long q0), .second, .val (.int q1), .val (.long q2), .second, .val (.int q3), .val (.long q4), .second, .val (.int q5), .val (.int la), .val (.int lb), .val (.long off), .second, .val (.int oz), .val (.int hbv), .val (.int hzv), .val (.int oav), .val (.ref nb5), .unset, .unset, .unset, .unset, .unset, .unset] []))
        have F49 : FA Z h47 bf .byte 16 (fun i => .int ((fun _ => (0 : Int32)) i)) := (F48.keep Kq47 (ninS (Ne.symm (O43.ne_fa (hw _ (List.mem_of_getElem? (i := 3) rfl)) F48)) nin0))
        exact bl116 T47 _ begin_size ((begin_empty + (1 : Int64)) + (1 : Int64)) (fun _ => (0 : Int32)) h47 Z47 X47 e47 N47 O47 F49
    · show OEnds p e below s _ _ _ (T7.setTop (mkF m 98 #[.val (.long q0), .second, .val (.int q1), .val (.long q2), .second, .val (.int q3), .val (.long q4), .second, .val (.int q5), .val (.int la), .val (.int lb), .val (.long off), .second, .val (.int oz), .val (.int hbv), .val (.int hzv), .val (.int oav), .val (.ref nb5), .unset, .unset, .unset, .unset, .unset, .unset] []))
      refine own_by (fun _ k => XS.aload X7.here hx rfl (hb hby at_98) rfl rfl k) ?_
      show OEnds p e below s _ _ _ (T7.setTop (mkF m 100 #[.val (.long q0), .second, .val (.int q1), .val (.long q2), .second, .val (.int q3), .val (.long q4), .second, .val (.int q5), .val (.int la), .val (.int lb), .val (.long off), .second, .val (.int oz), .val (.int hbv), .val (.int hzv), .val (.int oav), .val (.ref nb5), .unset, .unset, .unset, .unset, .unset, .unset] [(.ref nb5)]))
      refine own_by (fun _ k => XS.iload X7.here hx rfl (hb hby at_100) rfl k) ?_
      show OEnds p e below s _ _ _ (T7.setTop (mkF m 102 #[.val (.long q0), .second, .val (.int q1), .val (.long q2), .second, .val (.int q3), .val (.long q4), .second, .val (.int q5), .val (.int la), .val (.int lb), .val (.long off), .second, .val (.int oz), .val (.int hbv), .val (.int hzv), .val (.int oav), .val (.ref nb5), .unset, .unset, .unset, .unset, .unset, .unset] [(.int la), (.ref nb5)]))
      have F51 : FA Z h7 bf .byte 16 (fun i => .int ((fun _ => (0 : Int32)) i)) := (F6.keep Kq7 (ninS (Ne.symm (O6.ne_fa (hw _ (List.mem_of_getElem? (i := 3) rfl)) F6)) nin0))
      obtain ⟨v50, T50, L50, h50, X50, e50, hQ50, st50⟩ := own_callV X7 hx hZ (y := (⟨"com/example/fourfold/fourfold/xdr/FragmentMap", "add", "(I)V"⟩ : MethodName)) hown (hw _ (List.mem_of_getElem? (i := 25) rfl)) (hw _ (List.mem_of_getElem? (i := 26) rfl)) (hw _ (List.mem_of_getElem? (i := 28) rfl)) (hw _ (List.mem_of_getElem? (i := 27) rfl)) (hw _ (List.mem_of_getElem? (i := 29) rfl)) (hw _ (List.mem_of_getElem? (i := 4) rfl)) (by decide) O7.exa (rm_addN l Z a0 hw [] nb5 la bf (begin_start q0) begin_size begin_empty (fun _ => (0 : Int32)) 0 la.toInt.toNat h7 n0 Z7 O7 F51 g_nb5 gbf (by decide) (by decide) hz42 (by decide) (nn_cast hla) (nn_lt la)) e7 (g := (mkF m 102 #[.val (.long q0), .second, .val (.int q1), .val (.long q2), .second, .val (.int q3), .val (.long q4), .second, .val (.int q5), .val (.int la), .val (.int lb), .val (.long off), .second, .val (.int oz), .val (.int hbv), .val (.int hzv), .val (.int oav), .val (.ref nb5), .unset, .unset, .unset, .unset, .unset, .unset] [(.int la), (.ref nb5)])) rfl (by rw [hml]; rfl) (argsL := [(.int la)]) (rest := []) (lenOf pd_pIrV rfl) rfl (W := 0) (by show 2 * 0 + _ ≤ _; exact Nat.le_of_eq rfl) (hb hby at_102) (by decide) (by decide) (by decide) (by decide)
      obtain ⟨rfl, Nq50, Kq50, bs50, hE50, hbl50, sz50, hsz50, O50, F50⟩ := hQ50
      have N50 := Fr.app N7 Nq50
      have Z50 : n0 ≤ h50.size := Nat.le_trans Z7 Kq50.1
      refine own_tr st50 ?_
      show OEnds p e below s _ _ _ (T50.setTop (mkF m 105 #[.val (.long q0), .second, .val (.int q1), .val (.long q2), .second, .val (.int q3), .val (.long q4), .second, .val (.int q5), .val (.int la), .val (.int lb), .val (.long off), .second, .val (.int oz), .val (.int hbv), .val (.int hzv), .val (.int oav), .val (.ref nb5), .unset, .unset, .unset, .unset, .unset, .unset] []))
      refine own_by (fun _ k => XS.iload X50.here hx rfl (hb hby at_105) rfl k) ?_
      show OEnds p e below s _ _ _ (T50.setTop (mkF m 107 #[.val (.long q0), .second, .val (.int q1), .val (.long q2), .second, .val (.int q3), .val (.long q4), .second, .val (.int q5), .val (.int la), .val (.int lb), .val (.long off), .second, .val (.int oz), .val (.int hbv), .val (.int hzv), .val (.int oav), .val (.ref nb5), .unset, .unset, .unset, .unset, .unset, .unset] [(.int oz)]))
      by_cases hc107_52 : oz = (0 : Int32)
      · refine own_by (fun _ k => XS.ifYes X50.here hx rfl (pc0 := 107) (pc' := 116) rfl (hb hby at_107) rfl ((if0 _ _).trans (teq hc107_52).1) (by decide) (by decide) k) ?_
        show OEnds p e below s _ _ _ (T50.setTop (mkF m 116 #[.val (.long q0), .second, .val (.int q1), .val (.long q2), .second, .val (.int q3), .val (.long q4), .second, .val (.int q5), .val (.int la), .val (.int lb), .val (.long off), .second, .val (.int oz), .val (.int hbv), .val (.int hzv), .val (.int oav), .val (.ref nb5), .unset, .unset, .unset, .unset, .unset, .unset] []))
        exact bl116 T50 _ sz50 (0 : Int64) (wrs (fun _ => (0 : Int32)) 0 bs50) h50 Z50 X50 e50 N50 O50 F50
      · refine own_by (fun _ k => XS.ifNo X50.here hx rfl (hb hby at_107) rfl ((if0 _ _).trans (feq hc107_52).1) k) ?_
        show OEnds p e below s _ _ _ (T50.setTop (mkF m 110 #[.val (.long q0), .second, .val (.int q1), .val (.long q2), .second, .val (.int q3), .val (.long q4), .second, .val (.int q5), .val (.int la), .val (.int lb), .val (.long off), .second, .val (.int oz), .val (.int hbv), .val (.int hzv), .val (.int oav), .val (.ref nb5), .unset, .unset, .unset, .unset, .unset, .unset] []))
        refine own_by (fun _ k => XS.aload X50.here hx rfl (hb hby at_110) rfl rfl k) ?_
        show OEnds p e below s _ _ _ (T50.setTop (mkF m 112 #[.val (.long q0), .second, .val (.int q1), .val (.long q2), .second, .val (.int q3), .val (.long q4), .second, .val (.int q5), .val (.int la), .val (.int lb), .val (.long off), .second, .val (.int oz), .val (.int hbv), .val (.int hzv), .val (.int oav), .val (.ref nb5), .unset, .unset, .unset, .unset, .unset, .unset] [(.ref nb5)]))
        refine own_by (fun _ k => XS.iconst X50.here hx rfl (hb hby at_112) k) ?_
        show OEnds p e below s _ _ _ (T50.setTop (mkF m 113 #[.val (.long q0), .second, .val (.int q1), .val (.long q2), .second, .val (.int q3), .val (.long q4), .second, .val (.int q5), .val (.int la), .val (.int lb), .val (.long off), .second, .val (.int oz), .val (.int hbv), .val (.int hzv), .val (.int oav), .val (.ref nb5), .unset, .unset, .unset, .unset, .unset, .unset] [(.int (0 : Int32)), (.ref nb5)]))
        obtain ⟨v53, T53, L53, h53, X53, e53, hQ53, st53⟩ := own_callV X50 hx hZ (y := (⟨"com/example/fourfold/fourfold/xdr/FragmentMap", "add", "(I)V"⟩ : MethodName)) hown (hw _ (List.mem_of_getElem? (i := 25) rfl)) (hw _ (List.mem_of_getElem? (i := 26) rfl)) (hw _ (List.mem_of_getElem? (i := 28) rfl)) (hw _ (List.mem_of_getElem? (i := 27) rfl)) (hw _ (List.mem_of_getElem? (i := 29) rfl)) (hw _ (List.mem_of_getElem? (i := 4) rfl)) (by decide) O50.exa (rm_addZ l Z a0 hw [] nb5 (0 : Int32) bf (begin_start q0) sz50 (0 : Int64) h50 n0 Z50 O50 g_nb5 rfl) e50 (g := (mkF m 113 #[.val (.long q0), .second, .val (.int q1), .val (.long q2), .second, .val (.int q3), .val (.long q4), .second, .val (.int q5), .val (.int la), .val (.int lb), .val (.long off), .second, .val (.int oz), .val (.int hbv), .val (.int hzv), .val (.int oav), .val (.ref nb5), .unset, .unset, .unset, .unset, .unset, .unset] [(.int (0 : Int32)), (.ref nb5)])) rfl (by rw [hml]; rfl) (argsL := [(.int (0 : Int32))]) (rest := []) (lenOf pd_pIrV rfl) rfl (W := 0) (by show 2 * 0 + _ ≤ _; exact Nat.le_of_eq rfl) (hb hby at_113) (by decide) (by decide) (by decide) (by decide)
        obtain ⟨rfl, Nq53, Kq53, O53⟩ := hQ53
        have N53 := Fr.app N50 Nq53
        have Z53 : n0 ≤ h53.size := Nat.le_trans Z50 Kq53.1
        refine own_tr st53 ?_
        show OEnds p e below s _ _ _ (T53.setTop (mkF m 116 #[.val (.long q0), .second, .val (.int q1), .val (.long q2), .second, .val (.int q3), .val (.long q4), .second, .val (.int q5), .val (.int la), .val (.int lb), .val (.long off), .second, .val (.int oz), .val (.int hbv), .val (.int hzv), .val (.int oav), .val (.ref nb5), .unset, .unset, .unset, .unset, .unset, .unset] []))
        have F54 : FA Z h53 bf .byte 16 (fun i => .int ((wrs (fun _ => (0 : Int32)) 0 bs50) i)) := (F50.keep Kq53 (ninS (Ne.symm (O50.ne_fa (hw _ (List.mem_of_getElem? (i := 3) rfl)) F50)) nin0))
        exact bl116 T53 _ sz50 (1 : Int64) (wrs (fun _ => (0 : Int32)) 0 bs50) h53 Z53 X53 e53 N53 O53 F54
set_option maxRecDepth 65536 in
set_option maxHeartbeats 40000000 in
theorem comes_1 {Post : Tables → Env → Array Value → State → Outcome → State → Prop} (hpost : ∀ tb e args s v u, (limb_1_1.after args s (.returned v) u = true ∧ limb_1_2.after args s (.returned v) u = true ∧ True) → FrameEnd s (.returned v) u (Jvm.fieldLocs frame_1_writes args s ++ Jvm.arrayLocs frame_1_arrays args s ++ Jvm.staticLocs frame_1_statics s) 16 128 → Post tb e args s (.returned v) u) :
    ArmFor flags0 classFile x code maxLocals ret World_1 tables_1 room_1 Calls_1 rest_1 Pre_1 Post := by
  intro l hfl _ _ p e ha hc hk s m args below hf hA hF happ hP
  obtain ⟨hcalls, hrest, hpre⟩ := hP
  obtain ⟨-, -, -, hnamed, -, -, -, hat⟩ := (Spec.applies_iff hf).mp happ
  obtain ⟨hg, hn⟩ := and_e (Cond.before_iff.mp (show (Jvm.Cond.and given_1 narrow_1).before args s = true from hpre))
  obtain ⟨hct, hg0⟩ := and_e hg
  obtain ⟨ga0, hg1⟩ := and_e hg0
  obtain ⟨ga1, hg2⟩ := and_e hg1
  obtain ⟨ga2, hg3⟩ := and_e hg2
  obtain ⟨ga3, hg4⟩ := and_e hg3
  obtain ⟨ga4, hg5⟩ := and_e hg4
  have ga5 := hg5
  obtain ⟨w0, w1, w2, w3, w4, w5, rfl⟩ : ∃ w0 w1 w2 w3 w4 w5 : Value, args = #[w0, w1, w2, w3, w4, w5] := by
    have hs : args.size = 6 := by simpa [Cond.value, given_1] using hct
    obtain ⟨L⟩ := args
    match L, hs with
    | [w0, w1, w2, w3, w4, w5], _ => exact ⟨w0, w1, w2, w3, w4, w5, rfl⟩
  have hw := fun d (hd : d ∈ tables_1) => atoms_spec (ws := Jvm.Cond.code x code maxLocals ret :: tables_1) hat d (List.mem_cons_of_mem _ hd)
  obtain ⟨i0, ei0⟩ := isL_v ga0
  obtain rfl : w0 = (.long i0) := Option.some.inj ei0
  obtain ⟨i1, ei1⟩ := is_v ga1
  obtain rfl : w1 = (.int i1) := Option.some.inj ei1
  obtain ⟨i2, ei2⟩ := isL_v ga2
  obtain rfl : w2 = (.long i2) := Option.some.inj ei2
  obtain ⟨i3, ei3⟩ := is_v ga3
  obtain rfl : w3 = (.int i3) := Option.some.inj ei3
  obtain ⟨i4, ei4⟩ := isL_v ga4
  obtain rfl : w4 = (.long i4) := Option.some.inj ei4
  obtain ⟨i5, ei5⟩ := is_v ga5
  obtain rfl : w5 = (.int i5) := Option.some.inj ei5
  obtain ⟨n, o, h1, h2, h3, _, L, rfl, ⟨rfl, N⟩, hq⟩ := rm_law l s _ hw tables_1 i0 i1 i2 i3 i4 i5 s.heap s.heap.size (Nat.le_refl _) p e ha hc hk s m _ below hf ((Spec.applies_iff_loose hf).mp happ).1 ⟨rfl, State.Warmed39.refl s, rfl⟩ trivial
  refine ⟨n, _, h1, h2, h3, hpost _ _ _ _ _ _ ⟨Cond.after_iff.mpr rfl, Cond.after_iff.mpr (eq_i res_at (Term.int_eval (1)) rfl), trivial⟩ ⟨hq.1, hq.2.1, (hq.2.2.sift fun y hy => Or.inr (N y hy)).mono (by decide) (by decide)⟩⟩
theorem main_1_1 : Claimed_1_1 := comes_1 fun _ _ _ _ _ _ h hF => ⟨h.1, hF⟩
theorem main_1_2 : Claimed_1_2 := comes_1 fun _ _ _ _ _ _ h hF => ⟨h.2.1, hF⟩
end Jvm.Pilot.@@N@@
namespace Jvm.Pilot.@@N@@
open Jvm Jvm.ClassFile Sem Op Lib Jvm.Free Jvm.Stand Jvm.Pilot.@@N@@.Jvm.D
/-! MADE BY PROGRAM (witnessworld.py) out of the Statement's table words and the real class files: 9 classes; the members and pool entries that the words name. The judged class is class 1, her method 1. -/
namespace start1
open Jvm.ClassFile
def u (s : String) : CpInfo := .utf8 (stringToUtf16 s)
/-- a pool by its gaps: so many unusable entries, then the entry; so many at the end -/
def gap : Nat → List CpInfo → List CpInfo
  | 0, r => r
  | n + 1, r => .unusable :: gap n r
def poolList (es : List (Nat × CpInfo)) (last : Nat) : List CpInfo := es.foldr (fun e r => gap e.1 (e.2 :: r)) (gap last [])
def pool (es : List (Nat × CpInfo)) (last : Nat) : Array CpInfo := ⟨poolList es last⟩
def fileOf (pool : Array CpInfo) (this : Nat) (attrs : Array Attribute := #[]) (ms : Array MethodInfo := #[]) (fl : Nat := 33) (sup : Nat := 0) (ifs : Array Nat := #[]) (fds : Array FieldInfo := #[]) : ClassFile where
  minorVersion := 0
  majorVersion := 65
  constantPool := pool
  accessFlags := fl
  thisClass := this
  superClass := sup
  interfaces := ifs
  fields := fds
  methods := ms
  attributes := attrs
def plain (name : String) (sup : Option ClassId) : Class where
  name := name
  kind := .ordinary
  loader := none
  accessFlags := 33
  super := sup
  interfaces := #[]
  cf := none
  fields := #[]
  methods := #[]
  instanceTypes := #[]
  staticTypes := #[]
  resolved := #[]
  callSites := []
  init := .initialized
  statics := none
  mirror := none

def pool0 : Array CpInfo := pool [(5, u "<init>"), (0, u "()V"), (1, .class_ 10), (1, u "java/lang/Object")] 113

def k0c0 : Code := { maxStack := 0, maxLocals := 1, code := object_method_1_code, exceptionTable := #[], attributes := #[] }
def k0m0 : Method := { name := "<init>", desc := "()V", sig := { parameters := [], returnType := none }, accessFlags := 1, code := some k0c0 }
/-- java/lang/Object -/
def k0 : Class := { plain "java/lang/Object" none with
  accessFlags := 33
  interfaces := #[]
  cf := some (fileOf pool0 8 #[] #[{ accessFlags := 1, nameIndex := 5, descriptorIndex := 6, attributes := #[] }] 33 0 #[] #[])
  fields := #[]
  methods := #[k0m0]
  instanceTypes := #[]
  staticTypes := #[]
  resolved := Array.replicate 124 none
  statics := none }

def pool1 : Array CpInfo := pool [(2, .class_ 4), (0, .nameAndType 5 6), (0, u "java/lang/Object"), (0, u "<init>"), (0, u "()V"), (0, .integer 2147483647), (0, .long 9223372036854775807), (1, .class_ 11), (0, u "com/example/fourfold/fourfold/xdr/FragmentMap"), (0, .methodref 10 3), (0, .methodref 10 14), (0, .nameAndType 15 16), (0, u "begin"), (0, u "(J)V"), (0, .methodref 10 18), (0, .nameAndType 19 20), (0, u "add"), (0, u "(I)V"), (0, .methodref 10 22), (0, .nameAndType 23 24), (0, u "inStream"), (0, u "(J)J"), (0, .long 4), (1, .class_ 28), (0, u "com/example/fourfold/fourfold/xdr/FragmentMapBeginPinLaw"), (2, u "law"), (0, u "(JIJIJI)Z")] 3

def k1m0 : Method := { name := "<init>", desc := "()V", sig := { parameters := [], returnType := none }, accessFlags := 1, code := none }
def k1c1 : Code := { maxStack := 8, maxLocals := 24, code := code, exceptionTable := #[], attributes := #[] }
def k1m1 : Method := { name := "law", desc := "(JIJIJI)Z", sig := { parameters := [.long, .int, .long, .int, .long, .int], returnType := some .boolean }, accessFlags := 9, code := some k1c1 }
/-- com/example/fourfold/fourfold/xdr/FragmentMapBeginPinLaw -/
def k1 : Class := { plain "com/example/fourfold/fourfold/xdr/FragmentMapBeginPinLaw" (some 0) with
  accessFlags := 49
  interfaces := #[]
  cf := some (fileOf pool1 27 #[] #[{ accessFlags := 1, nameIndex := 5, descriptorIndex := 6, attributes := #[] }, { accessFlags := 9, nameIndex := 31, descriptorIndex := 32, attributes := #[] }] 49 2 #[] #[])
  fields := #[]
  methods := #[k1m0, k1m1]
  instanceTypes := #[]
  staticTypes := #[]
  resolved := Array.replicate 36 none
  statics := none }

def pool2 : Array CpInfo := pool [(1, .methodref 2 3), (0, .class_ 4), (0, .nameAndType 5 6), (0, u "java/lang/Object"), (0, u "<init>"), (0, u "()V"), (0, .fieldref 8 9), (0, .class_ 10), (0, .nameAndType 11 12), (0, u "com/example/fourfold/fourfold/xdr/FragmentMap"), (0, u "entries"), (0, u "[B"), (0, .fieldref 8 14), (0, .nameAndType 15 16), (0, u "start"), (0, u "J"), (0, .fieldref 8 18), (0, .nameAndType 19 20), (0, u "size"), (0, u "I"), (0, .fieldref 8 22), (0, .nameAndType 23 16), (0, u "empty"), (0, .long 2), (1, .methodref 8 27), (0, .nameAndType 28 29), (0, u "put"), (0, u "(J)V"), (2, .long 4), (1, .long 128), (1, .methodref 8 37), (0, .nameAndType 38 39), (0, u "append"), (0, u "(B)V"), (8, u "begin"), (0, u "add"), (0, u "(I)V"), (1, u "inStream"), (0, u "(J)J")] 2

def k2c0 : Code := { maxStack := 2, maxLocals := 1, code := prog_88_method_1_code, exceptionTable := #[], attributes := #[] }
def k2m0 : Method := { name := "<init>", desc := "()V", sig := { parameters := [], returnType := none }, accessFlags := 0, code := some k2c0 }
def k2c1 : Code := { maxStack := 3, maxLocals := 3, code := prog_88_method_2_code, exceptionTable := #[], attributes := #[] }
def k2m1 : Method := { name := "begin", desc := "(J)V", sig := { parameters := [.long], returnType := none }, accessFlags := 0, code := some k2c1 }
def k2c2 : Code := { maxStack := 5, maxLocals := 2, code := prog_88_method_3_code, exceptionTable := #[], attributes := #[] }
def k2m2 : Method := { name := "add", desc := "(I)V", sig := { parameters := [.int], returnType := none }, accessFlags := 0, code := some k2c2 }
def k2c3 : Code := { maxStack := 6, maxLocals := 14, code := prog_88_method_4_code, exceptionTable := #[], attributes := #[] }
def k2m3 : Method := { name := "inStream", desc := "(J)J", sig := { parameters := [.long], returnType := some .long }, accessFlags := 0, code := some k2c3 }
def k2c4 : Code := { maxStack := 5, maxLocals := 5, code := prog_88_method_5_code, exceptionTable := #[], attributes := #[] }
def k2m4 : Method := { name := "put", desc := "(J)V", sig := { parameters := [.long], returnType := none }, accessFlags := 2, code := some k2c4 }
def k2c5 : Code := { maxStack := 5, maxLocals := 2, code := prog_88_method_6_code, exceptionTable := #[], attributes := #[] }
def k2m5 : Method := { name := "append", desc := "(B)V", sig := { parameters := [.byte], returnType := none }, accessFlags := 2, code := some k2c5 }
/-- com/example/fourfold/fourfold/xdr/FragmentMap -/
def k2 : Class := { plain "com/example/fourfold/fourfold/xdr/FragmentMap" (some 0) with
  accessFlags := 48
  interfaces := #[]
  cf := some (fileOf pool2 8 #[] #[{ accessFlags := 0, nameIndex := 5, descriptorIndex := 6, attributes := #[] }, { accessFlags := 0, nameIndex := 48, descriptorIndex := 29, attributes := #[] }, { accessFlags := 0, nameIndex := 49, descriptorIndex := 50, attributes := #[] }, { accessFlags := 0, nameIndex := 52, descriptorIndex := 53, attributes := #[] }, { accessFlags := 2, nameIndex := 28, descriptorIndex := 29, attributes := #[] }, { accessFlags := 2, nameIndex := 38, descriptorIndex := 39, attributes := #[] }] 48 2 #[] #[{ accessFlags := 2, nameIndex := 11, descriptorIndex := 12, attributes := #[] }, { accessFlags := 2, nameIndex := 19, descriptorIndex := 20, attributes := #[] }, { accessFlags := 2, nameIndex := 15, descriptorIndex := 16, attributes := #[] }, { accessFlags := 2, nameIndex := 23, descriptorIndex := 16, attributes := #[] }])
  fields := #[{ name := "entries", type := (.array .byte), accessFlags := 2, slot := 0, constantValue := 0 }, { name := "size", type := .int, accessFlags := 2, slot := 1, constantValue := 0 }, { name := "start", type := .long, accessFlags := 2, slot := 2, constantValue := 0 }, { name := "empty", type := .long, accessFlags := 2, slot := 3, constantValue := 0 }]
  methods := #[k2m0, k2m1, k2m2, k2m3, k2m4, k2m5]
  instanceTypes := #[(.array .byte), .int, .long, .long]
  staticTypes := #[]
  resolved := Array.replicate 56 none
  statics := none }

def pool3 : Array CpInfo := pool [(1, u "java/lang/Cloneable"), (0, .class_ 1), (0, u "java/lang/Object"), (0, .class_ 3)] 3

/-- java/lang/Cloneable -/
def k3 : Class := { plain "java/lang/Cloneable" (some 0) with
  accessFlags := 1537
  interfaces := #[]
  cf := some (fileOf pool3 2 #[] #[] 1537 4 #[] #[])
  fields := #[]
  methods := #[]
  instanceTypes := #[]
  staticTypes := #[]
  resolved := Array.replicate 8 none
  statics := none }

def pool4 : Array CpInfo := pool [(1, u "java/io/Serializable"), (0, .class_ 1), (0, u "java/lang/Object"), (0, .class_ 3)] 3

/-- java/io/Serializable -/
def k4 : Class := { plain "java/io/Serializable" (some 0) with
  accessFlags := 1537
  interfaces := #[]
  cf := some (fileOf pool4 2 #[] #[] 1537 4 #[] #[])
  fields := #[]
  methods := #[]
  instanceTypes := #[]
  staticTypes := #[]
  resolved := Array.replicate 8 none
  statics := none }

/-- the primitive byte -/
def k5 : Class := { plain "byte" none with kind := .primitive 'B', accessFlags := 0x411 }
/-- [B -/
def k6 : Class := { plain "[B" (some 0) with kind := .array 5 .byte, interfaces := #[3, 4], accessFlags := 1041 }

/-- the primitive int -/
def k7 : Class := { plain "int" none with kind := .primitive 'I', accessFlags := 0x411 }
/-- [I -/
def k8 : Class := { plain "[I" (some 0) with kind := .array 7 .int, interfaces := #[3, 4], accessFlags := 1041 }

def heap : Heap := #[]
def classes : Array Class := #[k0, k1, k2, k3, k4, k5, k6, k7, k8]
def interned : List (Array UInt16 × Addr) := []
def slotsUsed : Nat := 0
def theMethod : MethodId := ⟨1, 1⟩
def args0 : Array Value := #[.long 5, .int 3, .long 7, .int 4, .long 2, .int 15]
def aboutOver (below : List Frame) : State where
  vm := { classes := classes, interned := interned.toArray }
  heap := heap
  slotsUsed := slotsUsed
  threads := #[{ frames := .invoking theMethod args0 :: below }]
def below0 : List Frame := [.native { method := ⟨0, 0⟩, args := #[] }]
def about1 : State := aboutOver below0
def p0 : Program := .bare "" "" ""
def e0 : Env := launch0.env 0 0 0
theorem w_frames : about1.frames = Frame.invoking theMethod args0 :: below0 := rfl
set_option maxRecDepth 65536 in
theorem w_args : argsFit about1.vm theMethod args0 = true := by decide +kernel
set_option maxRecDepth 65536 in
theorem w_heap : heapFits about1 = true := by decide +kernel
set_option maxRecDepth 65536 in
theorem w_runnable : about1.curStatus? = some .runnable := by decide +kernel
set_option maxRecDepth 65536 in
theorem w_alone : about1.alone = true := by decide +kernel
set_option maxRecDepth 65536 in
theorem w_named : about1.methodNamed? x = some theMethod := by decide +kernel
set_option maxRecDepth 65536 in
theorem w_hears : about1.hears theMethod below0 = true := by decide +kernel
set_option maxRecDepth 65536 in
theorem w_ripe : about1.ripe theMethod args0 below0 = true := by decide +kernel
theorem w_running : about1.status = .running := rfl
set_option maxRecDepth 65536 in
theorem w_room : about1.hasRoom e0.platform room_1 = true :=
  launch0.hasRoom_least _ room_1 (by decide +kernel) (by decide +kernel) (by decide +kernel) (by decide +kernel) (by decide +kernel) (by decide +kernel)
theorem allAtoms_all (ts : List Jvm.Cond) (a : Array Jvm.Value) (st : Jvm.State) : (allAtoms ts).before a st = ts.all (fun c => c.before a st) := by
  induction ts with
  | nil => rfl
  | cons c t ih =>
    show (Jvm.Cond.and c (allAtoms t)).before a st = _
    rw [Jvm.Cond.before_and, ih, List.all_cons]
def words1 : List Jvm.Cond := Jvm.Cond.code x code maxLocals ret :: tables_1
/-- a 'code' word, met by the world's own term for the bytes: nothing is compared byte by byte -/
theorem code_word {y : MethodName} {bytes : ByteArray} {mx : Nat} {rt : Option FieldType} {a : Array Value} {s : State} {m : MethodId} {meth : Method} {c : Code} (h1 : s.methodNamed? y = some m) (h2 : s.vm.method? m = some meth) (h3 : meth.code = some c) (h4 : c.code = bytes)
    (h5 : (c.maxLocals == mx && c.exceptionTable.isEmpty && decide (c.maxStack ≤ mostOperands) && decide (meth.sig.returnType = rt) && !meth.locks && decide (parseMethodDescriptor y.desc = some meth.sig)) = true) : (Jvm.Cond.code y bytes mx rt).before a s = true := by
  simp only [Bool.and_eq_true, beq_iff_eq, Bool.not_eq_true', decide_eq_true_eq] at h5
  obtain ⟨⟨⟨⟨⟨g1, g2⟩, g3⟩, g4⟩, g5⟩, g6⟩ := h5
  simp [Cond.before, Cond.holds, Cond.value, h1, h2, h3, h4, g1, g2, g3, g4, g5, g6]
def isCode : Jvm.Cond → Bool
  | .code _ _ _ _ => true
  | _ => false
theorem all_split {L : List Jvm.Cond} {P : Jvm.Cond → Bool} (h1 : L.all (fun c => isCode c || P c) = true) (h2 : ∀ c ∈ L.filter isCode, P c = true) : L.all P = true := by
  refine List.all_eq_true.mpr fun c hc => ?_
  have h := List.all_eq_true.mp h1 c hc
  rcases Bool.eq_false_or_eq_true (isCode c) with hi | hi
  · exact h2 c (List.mem_filter.mpr ⟨hc, hi⟩)
  · simpa [hi] using h
set_option maxRecDepth 65536 in
theorem w_c0 : (Jvm.Cond.code x code maxLocals ret).before args0 about1 = true := code_word (m := ⟨1, 1⟩) (meth := k1m1) (c := k1c1) (by decide +kernel) rfl rfl rfl (by decide +kernel)
set_option maxRecDepth 65536 in
theorem w_c1 : (Jvm.Cond.code ({ cls := "com/example/fourfold/fourfold/xdr/FragmentMap", name := "<init>", desc := "()V" } : Jvm.MethodName) prog_88_method_1_code (1 : Nat) (Option.none : Option Jvm.ClassFile.FieldType)).before args0 about1 = true := code_word (m := ⟨2, 0⟩) (meth := k2m0) (c := k2c0) (by decide +kernel) rfl rfl rfl (by decide +kernel)
set_option maxRecDepth 65536 in
theorem w_c2 : (Jvm.Cond.code ({ cls := "java/lang/Object", name := "<init>", desc := "()V" } : Jvm.MethodName) object_method_1_code (1 : Nat) (Option.none : Option Jvm.ClassFile.FieldType)).before args0 about1 = true := code_word (m := ⟨0, 0⟩) (meth := k0m0) (c := k0c0) (by decide +kernel) rfl rfl rfl (by decide +kernel)
set_option maxRecDepth 65536 in
theorem w_c3 : (Jvm.Cond.code ({ cls := "com/example/fourfold/fourfold/xdr/FragmentMap", name := "begin", desc := "(J)V" } : Jvm.MethodName) prog_88_method_2_code (3 : Nat) (Option.none : Option Jvm.ClassFile.FieldType)).before args0 about1 = true := code_word (m := ⟨2, 1⟩) (meth := k2m1) (c := k2c1) (by decide +kernel) rfl rfl rfl (by decide +kernel)
set_option maxRecDepth 65536 in
theorem w_c4 : (Jvm.Cond.code ({ cls := "com/example/fourfold/fourfold/xdr/FragmentMap", name := "add", desc := "(I)V" } : Jvm.MethodName) prog_88_method_3_code (2 : Nat) (Option.none : Option Jvm.ClassFile.FieldType)).before args0 about1 = true := code_word (m := ⟨2, 2⟩) (meth := k2m2) (c := k2c2) (by decide +kernel) rfl rfl rfl (by decide +kernel)
set_option maxRecDepth 65536 in
theorem w_c5 : (Jvm.Cond.code ({ cls := "com/example/fourfold/fourfold/xdr/FragmentMap", name := "inStream", desc := "(J)J" } : Jvm.MethodName) prog_88_method_4_code (14 : Nat) (Option.some Jvm.ClassFile.FieldType.long)).before args0 about1 = true := code_word (m := ⟨2, 3⟩) (meth := k2m3) (c := k2c3) (by decide +kernel) rfl rfl rfl (by decide +kernel)
set_option maxRecDepth 65536 in
theorem w_c6 : (Jvm.Cond.code ({ cls := "com/example/fourfold/fourfold/xdr/FragmentMap", name := "put", desc := "(J)V" } : Jvm.MethodName) prog_88_method_5_code (5 : Nat) (Option.none : Option Jvm.ClassFile.FieldType)).before args0 about1 = true := code_word (m := ⟨2, 4⟩) (meth := k2m4) (c := k2c4) (by decide +kernel) rfl rfl rfl (by decide +kernel)
set_option maxRecDepth 65536 in
theorem w_c7 : (Jvm.Cond.code ({ cls := "com/example/fourfold/fourfold/xdr/FragmentMap", name := "append", desc := "(B)V" } : Jvm.MethodName) prog_88_method_6_code (2 : Nat) (Option.none : Option Jvm.ClassFile.FieldType)).before args0 about1 = true := code_word (m := ⟨2, 5⟩) (meth := k2m5) (c := k2c5) (by decide +kernel) rfl rfl rfl (by decide +kernel)
def codes1 : List Jvm.Cond := [Jvm.Cond.code x code maxLocals ret, Jvm.Cond.code ({ cls := "com/example/fourfold/fourfold/xdr/FragmentMap", name := "<init>", desc := "()V" } : Jvm.MethodName) prog_88_method_1_code (1 : Nat) (Option.none : Option Jvm.ClassFile.FieldType), Jvm.Cond.code ({ cls := "java/lang/Object", name := "<init>", desc := "()V" } : Jvm.MethodName) object_method_1_code (1 : Nat) (Option.none : Option Jvm.ClassFile.FieldType), Jvm.Cond.code ({ cls := "com/example/fourfold/fourfold/xdr/FragmentMap", name := "begin", desc := "(J)V" } : Jvm.MethodName) prog_88_method_2_code (3 : Nat) (Option.none : Option Jvm.ClassFile.FieldType), Jvm.Cond.code ({ cls := "com/example/fourfold/fourfold/xdr/FragmentMap", name := "add", desc := "(I)V" } : Jvm.MethodName) prog_88_method_3_code (2 : Nat) (Option.none : Option Jvm.ClassFile.FieldType), Jvm.Cond.code ({ cls := "com/example/fourfold/fourfold/xdr/FragmentMap", name := "inStream", desc := "(J)J" } : Jvm.MethodName) prog_88_method_4_code (14 : Nat) (Option.some Jvm.ClassFile.FieldType.long), Jvm.Cond.code ({ cls := "com/example/fourfold/fourfold/xdr/FragmentMap", name := "put", desc := "(J)V" } : Jvm.MethodName) prog_88_method_5_code (5 : Nat) (Option.none : Option Jvm.ClassFile.FieldType), Jvm.Cond.code ({ cls := "com/example/fourfold/fourfold/xdr/FragmentMap", name := "append", desc := "(B)V" } : Jvm.MethodName) prog_88_method_6_code (2 : Nat) (Option.none : Option Jvm.ClassFile.FieldType)]
set_option maxRecDepth 65536 in
theorem codes_eq : words1.filter isCode = codes1 := rfl
theorem w_codes : ∀ c ∈ words1.filter isCode, c.before args0 about1 = true := by
  rw [codes_eq]
  intro c hc
  simp only [codes1, List.mem_cons, List.not_mem_nil, or_false] at hc
  rcases hc with rfl | rfl | rfl | rfl | rfl | rfl | rfl | rfl
  · exact w_c0
  · exact w_c1
  · exact w_c2
  · exact w_c3
  · exact w_c4
  · exact w_c5
  · exact w_c6
  · exact w_c7
set_option maxRecDepth 65536 in
theorem w_t1 : (words1.take 24).all (fun c => isCode c || c.before args0 about1) = true := by decide +kernel
set_option maxRecDepth 65536 in
theorem w_t2 : (words1.drop 24).all (fun c => isCode c || c.before args0 about1) = true := by decide +kernel
theorem w_tables : (allAtoms (Jvm.Cond.code x code maxLocals ret :: tables_1)).before args0 about1 = true := by
  rw [allAtoms_all]
  show words1.all (fun c => c.before args0 about1) = true
  refine all_split ?_ w_codes
  rw [← List.take_append_drop 24 words1, List.all_append, w_t1, w_t2]
  rfl
set_option maxRecDepth 65536 in
theorem w_case : (Jvm.Cond.and given_1 narrow_1).before args0 about1 = true := by decide +kernel
theorem w_applies : (headSpec (Jvm.Cond.code x code maxLocals ret :: tables_1) room_1).applies x e0.platform about1 = true :=
  (Spec.applies_iff w_frames).mpr ⟨w_running, w_runnable, w_alone, w_named, w_hears, w_ripe, w_room, w_tables⟩
theorem atStart : AtStart classFile x code maxLocals ret World_1 tables_1 room_1 Calls_1 rest_1 Pre_1 launch0 p0 e0 about1 theMethod args0 below0 :=
  ⟨lists_1, trivial, launch0.admits_env _ _ _, launch0.least_env, fairChoices_fair.cas, fairChoices_fair.clock, w_frames, w_args, w_heap, w_applies, trivial, trivial, w_case⟩
end start1
theorem witness_1 : WitnessClaimed_1 := ⟨start1.p0, start1.e0, start1.about1, start1.theMethod, start1.args0, start1.below0, start1.atStart⟩
end Jvm.Pilot.@@N@@
