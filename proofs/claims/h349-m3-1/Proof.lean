import JvmDerived
import JvmDerived.Pilot.@@N@@Statement
import JvmDerived.Pilot.@@N@@Code
set_option linter.unusedVariables false
set_option linter.unusedSimpArgs false
namespace Jvm.Pilot.@@N@@
open Jvm Jvm.ClassFile Sem Op Lib Jvm.Free Jvm.Stand Jvm.LawKit Jvm.RoadKit Bundle Jvm.Pilot.@@N@@.Jvm.D
section Own
variable {p : Program} {l : Launch} {e : Env} {R : Room} {s : State} {m : MethodId} {args : Array Value} {below : List Frame} {meth : Method} {c : Code} {T : State} {locs : List Loc} {cells slots : Nat} {Z : State} {a0 : Array Value} {h h' : Heap}
/-- from S the walk comes to the method's end, where Q holds of what is returned, the heap and the written places -/
def OEnds (p : Program) (e : Env) (below : List Frame) (s : State) (Q : Option Value → Heap → List Loc → Prop) (K N : Nat) (S : State) : Prop :=
  ∃ s₂ o, Steps p.tables e below S s₂ ∧ s₂.status = .running ∧ Ended s₂ below o ∧ ∃ v L, o = .returned v ∧ Q v s₂.heap L ∧ FrameEnd s o s₂ L K N
variable {Q Q' : Option Value → Heap → List Loc → Prop} {K N : Nat} {S S' : State}
theorem own_by (st : ∀ t, Steps p.tables e below S' t → Steps p.tables e below S t) (k : OEnds p e below s Q K N S') : OEnds p e below s Q K N S := by
  obtain ⟨a, o, h1, h2⟩ := k
  exact ⟨a, o, st _ h1, h2⟩
theorem own_tr (st : Steps p.tables e below S S') (k : OEnds p e below s Q K N S') : OEnds p e below s Q K N S := by
  obtain ⟨a, o, h1, h2⟩ := k
  exact ⟨a, o, st.trans h1, h2⟩
theorem own_mono (f : ∀ v h L, Q' v h L → Q v h L) (k : OEnds p e below s Q' K N S) : OEnds p e below s Q K N S := by
  obtain ⟨a, o, h1, h2, h3, v, L, h4, h5, h6⟩ := k
  exact ⟨a, o, h1, h2, h3, v, L, h4, f _ _ _ h5, h6⟩
theorem own_fin (X : Stand p l e R s m args below meth c T locs cells slots) (hlk : meth.locks = false) {v : Option Value} (hv : meth.sig.returnType = none → v = none) (hQ : Q v T.heap locs) (hK : cells ≤ K) (hN : slots ≤ N)
    (hst : ∀ fs, (∀ (f : JFrame) (acts : List Action), f.method = m → f.locked = none → f.entered = [] → (doReturn e (T.setTop f) acts v).1 = T.setFrames fs) → Steps p.tables e below S (T.setFrames fs)) : OEnds p e below s Q K N S := by
  obtain ⟨fs, hr, hrun, hended, hW, hsame⟩ := X.leave hv hlk
  exact ⟨_, _, hst fs hr, hrun, hended, _, _, rfl, hQ, ⟨_, rfl⟩, hW, hsame.mono hK hN⟩
theorem own_retI (X : Stand p l e R s m args below meth c T locs cells slots) (hx : p.tables.exec = Jvm.exec) (hlk : meth.locks = false) {pc : Nat} {Ls : Array Slot} {z : Int32} {rest : List Value} (hret : meth.sig.returnType = some .int) (hd : decode c.code pc = .ok (.ireturn, 1))
    (hQ : Q (some (.int z)) T.heap locs) (hK : cells ≤ K) (hN : slots ≤ N) : OEnds p e below s Q K N (T.setTop (mkF m pc Ls (.int z :: rest))) :=
  own_fin X hlk (fun q => by rw [hret] at q; cases q) hQ hK hN fun _ hr => retOut X hx hret rfl (Or.inl ⟨rfl, Or.inl rfl, _, rfl⟩) hd hr
theorem own_retN (X : Stand p l e R s m args below meth c T locs cells slots) (hx : p.tables.exec = Jvm.exec) (hlk : meth.locks = false) (t : FieldType) (ht : t = .boolean ∨ t = .byte ∨ t = .char ∨ t = .short) {pc : Nat} {Ls : Array Slot} {z : Int32} {rest : List Value} (hret : meth.sig.returnType = some t) (hd : decode c.code pc = .ok (.ireturn, 1))
    (hQ : Q (some (.int (nar t z))) T.heap locs) (hK : cells ≤ K) (hN : slots ≤ N) : OEnds p e below s Q K N (T.setTop (mkF m pc Ls (.int z :: rest))) :=
  own_fin X hlk (fun q => by rw [hret] at q; cases q) hQ hK hN fun _ hr => retN X hx hret ht hd hr
theorem own_retJ (X : Stand p l e R s m args below meth c T locs cells slots) (hx : p.tables.exec = Jvm.exec) (hlk : meth.locks = false) {pc : Nat} {Ls : Array Slot} {z : Int64} {rest : List Value} (hret : meth.sig.returnType = some .long) (hd : decode c.code pc = .ok (.lreturn, 1))
    (hQ : Q (some (.long z)) T.heap locs) (hK : cells ≤ K) (hN : slots ≤ N) : OEnds p e below s Q K N (T.setTop (mkF m pc Ls (.long z :: rest))) :=
  own_fin X hlk (fun q => by rw [hret] at q; cases q) hQ hK hN fun _ hr => retOut X hx hret rfl (Or.inr (Or.inl ⟨rfl, rfl, _, rfl⟩)) hd hr
theorem own_retA (X : Stand p l e R s m args below meth c T locs cells slots) (hx : p.tables.exec = Jvm.exec) (hlk : meth.locks = false) {t : FieldType} (ht : t.isReference = true) {pc : Nat} {Ls : Array Slot} {a : Addr} {rest : List Value} (hret : meth.sig.returnType = some t) (hn : narrow t (.ref a) = .ref a) (hd : decode c.code pc = .ok (.areturn, 1))
    (hQ : Q (some (.ref a)) T.heap locs) (hK : cells ≤ K) (hN : slots ≤ N) : OEnds p e below s Q K N (T.setTop (mkF m pc Ls (.ref a :: rest))) :=
  own_fin X hlk (fun q => by rw [hret] at q; cases q) hQ hK hN fun _ hr => retOut X hx hret hn (Or.inr (Or.inr (Or.inr (Or.inr ⟨rfl, ht, rfl⟩)))) hd hr
theorem own_retV (X : Stand p l e R s m args below meth c T locs cells slots) (hx : p.tables.exec = Jvm.exec) (hlk : meth.locks = false) {pc : Nat} {Ls : Array Slot} (hret : meth.sig.returnType = none) (hd : decode c.code pc = .ok (.return_, 1))
    (hQ : Q none T.heap locs) (hK : cells ≤ K) (hN : slots ≤ N) : OEnds p e below s Q K N (T.setTop (mkF m pc Ls [])) :=
  own_fin X hlk (fun _ => rfl) hQ hK hN fun _ hr => X.returnOut hx hret hd hr
/-- what a plain method leaves: its value, nothing written, the heap as it was -/
def QP (r : Value) (h0 : Heap) (v : Option Value) (h : Heap) (L : List Loc) : Prop := v = some r ∧ L = [] ∧ h = h0
theorem own_eq {r r' : Value} {h0 : Heap} (q : r = r') (k : OEnds p e below s (QP r' h0) K N S) : OEnds p e below s (QP r h0) K N S := by subst q; exact k
theorem own_lrem {g : JFrame} {target : State} (X : Stand p l e R s m args below meth c T locs cells slots) (hx : p.tables.exec = Jvm.exec) (hg : g.method = m) {x y : Int64} {rest : List Value} (hd : decode c.code g.pc = .ok (.lrem, 1)) (hs : g.stack = .long y :: .long x :: rest) (hy : y ≠ 0)
    (hr : Steps p.tables e below (T.setTop { g with pc := g.pc + 1, stack := .long (x % y) :: rest }) target) : Steps p.tables e below (T.setTop g) target := by
  have q : x - x / y * y = x % y := lrem_mod x y
  exact XS.lrem X.here hx hg hd hs hy (by rw [q]; exact hr)
/-- a call of a plain static method by its contract -/
theorem own_callP (X : Stand p l e R s m args below meth c T locs cells slots) (hx : p.tables.exec = Jvm.exec) (hZ : Z.Warmed39 s.vm) {own : String} {index : Nat} {y : MethodName} {bytes : ByteArray} {maxL : Nat} {ret : Option FieldType} {fr lo : Nat} {r : Value} {argsL rest : List Value} {g : JFrame}
    (hown : s.vm.findClass own = some m.cls) (w1 : (Cond.methodLink own index y).before a0 Z = true) (w2 : (Cond.static y).before a0 Z = true) (w3 : (Cond.initialized y.cls).before a0 Z = true) (w4 : (Cond.code y bytes maxL ret).before a0 Z = true)
    (hy : y.cls ≠ "java/lang/invoke/MethodHandle" ∧ y.cls ≠ "java/lang/invoke/VarHandle")
    (hM : MetFree l y (head1 [Cond.code y bytes maxL ret] ({ frames := fr, cells := 0, slots := 0, locals := lo } : Room)) (fun a U => a = argsL.toArray ∧ Z.Warmed39 U.vm ∧ U.heap = h) (fun _ _ _ _ _ => True) (fun _ U o U' => ∃ v L, o = .returned v ∧ QP r h v U'.heap L ∧ FrameEnd U o U' L 0 0))
    (eT : T.heap = h) (hg : g.method = m) (hsize : g.locals.size = c.maxLocals) (hlen : ∀ sig, parseMethodDescriptor y.desc = some sig → argsL.length = sig.parameters.length) (hstack : g.stack = argsL.reverse ++ rest) {W : Nat} (hW : 2 * g.monitorRoom + (rest.map fun v => v.category).sum ≤ W)
    (hd : decode c.code g.pc = .ok (.invokestatic index, 3)) (hf : fr + 1 ≤ R.frames) (hl : W + (maxL + 11) + lo ≤ R.locals) (hc : cells ≤ R.cells) (hs : slots ≤ R.slots) :
    ∃ T', Stand p l e R s m args below meth c T' locs cells slots ∧ T'.heap = h ∧ ∀ target, Steps p.tables e below (T'.setTop { g with pc := g.pc + 3, stack := r :: rest }) target → Steps p.tables e below (T.setTop g) target := by
  obtain ⟨_, _, ⟨T1, L1, k1, n1⟩, -, X1, ⟨Lc, hQ, l1, y1, z1⟩, st⟩ := Jvm.LawKit.callS X hx (y := y) hown (mvT hZ w1) (mvT hZ w2) (mvT hZ w3) (mvT hZ w4) hy (backOf (rm := ({ frames := fr, cells := 0, slots := 0, locals := lo } : Room)) (W := W) hM hZ w4 w3 hf hl) (g := g) hg hsize (argsL := argsL) (rest := rest) hlen hstack hW hd (fun _ _ => ⟨rfl, eT, hc, hs⟩)
  dsimp only [Pt.U, Pt.locs, Pt.cells, Pt.slots] at X1 l1 y1 z1 st hQ
  subst l1 y1 z1
  obtain ⟨rfl, rfl, e1⟩ := hQ
  rw [List.append_nil] at X1
  exact ⟨T1, X1, e1, st⟩
end Own
theorem pd_pIZrZ : parseMethodDescriptor "(IZ)Z" = some ⟨[.int, .boolean], some .boolean⟩ := by decide +kernel
theorem d1_0 : decode prog_200_method_8_code 0 = .ok (.iload_n 0, 1) := by decide +kernel
theorem d1_1 : decode prog_200_method_8_code 1 = .ok (.bipush 9, 2) := by decide +kernel
theorem d1_3 : decode prog_200_method_8_code 3 = .ok (.if_icmp .eq 15, 3) := by decide +kernel
theorem d1_6 : decode prog_200_method_8_code 6 = .ok (.iload_n 0, 1) := by decide +kernel
theorem d1_7 : decode prog_200_method_8_code 7 = .ok (.bipush 10, 2) := by decide +kernel
theorem d1_9 : decode prog_200_method_8_code 9 = .ok (.if_icmp .eq 9, 3) := by decide +kernel
theorem d1_12 : decode prog_200_method_8_code 12 = .ok (.iload_n 0, 1) := by decide +kernel
theorem d1_13 : decode prog_200_method_8_code 13 = .ok (.bipush 13, 2) := by decide +kernel
theorem d1_15 : decode prog_200_method_8_code 15 = .ok (.if_icmp .ne 7, 3) := by decide +kernel
theorem d1_18 : decode prog_200_method_8_code 18 = .ok (.iconst 1, 1) := by decide +kernel
theorem d1_19 : decode prog_200_method_8_code 19 = .ok (.goto 4, 3) := by decide +kernel
theorem d1_22 : decode prog_200_method_8_code 22 = .ok (.iconst 0, 1) := by decide +kernel
theorem d1_23 : decode prog_200_method_8_code 23 = .ok (.istore_n 2, 1) := by decide +kernel
theorem d1_24 : decode prog_200_method_8_code 24 = .ok (.iload_n 0, 1) := by decide +kernel
theorem d1_25 : decode prog_200_method_8_code 25 = .ok (.bipush 32, 2) := by decide +kernel
theorem d1_27 : decode prog_200_method_8_code 27 = .ok (.if_icmp .lt 27, 3) := by decide +kernel
theorem d1_30 : decode prog_200_method_8_code 30 = .ok (.iload_n 1, 1) := by decide +kernel
theorem d1_31 : decode prog_200_method_8_code 31 = .ok (.ifCond .eq 27, 3) := by decide +kernel
theorem d1_34 : decode prog_200_method_8_code 34 = .ok (.iload_n 0, 1) := by decide +kernel
theorem d1_35 : decode prog_200_method_8_code 35 = .ok (.bipush 127, 2) := by decide +kernel
theorem d1_37 : decode prog_200_method_8_code 37 = .ok (.if_icmp .lt 21, 3) := by decide +kernel
theorem d1_40 : decode prog_200_method_8_code 40 = .ok (.iload_n 0, 1) := by decide +kernel
theorem d1_41 : decode prog_200_method_8_code 41 = .ok (.sipush 159, 3) := by decide +kernel
theorem d1_44 : decode prog_200_method_8_code 44 = .ok (.if_icmp .gt 14, 3) := by decide +kernel
theorem d1_47 : decode prog_200_method_8_code 47 = .ok (.iload_n 0, 1) := by decide +kernel
theorem d1_48 : decode prog_200_method_8_code 48 = .ok (.sipush 133, 3) := by decide +kernel
theorem d1_51 : decode prog_200_method_8_code 51 = .ok (.if_icmp .eq 7, 3) := by decide +kernel
theorem d1_54 : decode prog_200_method_8_code 54 = .ok (.iconst 1, 1) := by decide +kernel
theorem d1_55 : decode prog_200_method_8_code 55 = .ok (.goto 4, 3) := by decide +kernel
theorem d1_58 : decode prog_200_method_8_code 58 = .ok (.iconst 0, 1) := by decide +kernel
theorem d1_59 : decode prog_200_method_8_code 59 = .ok (.istore_n 3, 1) := by decide +kernel
theorem d1_60 : decode prog_200_method_8_code 60 = .ok (.iload_n 3, 1) := by decide +kernel
theorem d1_61 : decode prog_200_method_8_code 61 = .ok (.ifCond .eq 7, 3) := by decide +kernel
theorem d1_64 : decode prog_200_method_8_code 64 = .ok (.iload_n 2, 1) := by decide +kernel
theorem d1_65 : decode prog_200_method_8_code 65 = .ok (.goto 26, 3) := by decide +kernel
theorem d1_68 : decode prog_200_method_8_code 68 = .ok (.iload_n 0, 1) := by decide +kernel
theorem d1_69 : decode prog_200_method_8_code 69 = .ok (.ldc 138, 2) := by decide +kernel
theorem d1_71 : decode prog_200_method_8_code 71 = .ok (.if_icmp .le 15, 3) := by decide +kernel
theorem d1_74 : decode prog_200_method_8_code 74 = .ok (.iload_n 0, 1) := by decide +kernel
theorem d1_75 : decode prog_200_method_8_code 75 = .ok (.ldc 139, 2) := by decide +kernel
theorem d1_77 : decode prog_200_method_8_code 77 = .ok (.if_icmp .lt 13, 3) := by decide +kernel
theorem d1_80 : decode prog_200_method_8_code 80 = .ok (.iload_n 0, 1) := by decide +kernel
theorem d1_81 : decode prog_200_method_8_code 81 = .ok (.ldc 140, 2) := by decide +kernel
theorem d1_83 : decode prog_200_method_8_code 83 = .ok (.if_icmp .gt 7, 3) := by decide +kernel
theorem d1_86 : decode prog_200_method_8_code 86 = .ok (.iconst 1, 1) := by decide +kernel
theorem d1_87 : decode prog_200_method_8_code 87 = .ok (.goto 4, 3) := by decide +kernel
theorem d1_90 : decode prog_200_method_8_code 90 = .ok (.iconst 0, 1) := by decide +kernel
theorem d1_91 : decode prog_200_method_8_code 91 = .ok (.ireturn, 1) := by decide +kernel
theorem pn_1 : plainName "com/example/boughcheck/boughcheck/MarkupDeclarations" = true := by first | (simp [plainName, overriddenIn]; done) | decide +kernel
theorem ef_1 (m : MethodId) (q0 : Int32) (q1 : Int32) : entryFrame m #[(.int q0), (.int q1)] 4 = mkF m 0 #[.val (.int q0), .val (.int q1), .unset, .unset] [] := by first | (simp [entryFrame, mkF, argsToLocals, Value.category]; done) | rfl
def allowed_91 (v91_s0 : Int32) : Int32 := (nar .boolean v91_s0)
def allowed_90  : Int32 := (allowed_91 (0 : Int32))
def allowed_86  : Int32 := (allowed_91 (1 : Int32))
def allowed_59 (q0 : Int32) (v23_s0 : Int32) (v59_s0 : Int32) : Int32 := if v59_s0 = (0 : Int32) then if (55295 : Int32) < q0 then if q0 < (57344 : Int32) then allowed_90 else if (65533 : Int32) < q0 then allowed_90 else allowed_86 else allowed_86 else (allowed_91 v23_s0)
def allowed_58 (q0 : Int32) (v23_s0 : Int32) : Int32 := (allowed_59 q0 v23_s0 (0 : Int32))
def allowed_54 (q0 : Int32) (v23_s0 : Int32) : Int32 := (allowed_59 q0 v23_s0 (1 : Int32))
def allowed_23 (q0 : Int32) (q1 : Int32) (v23_s0 : Int32) : Int32 := if q0 < (32 : Int32) then (allowed_54 q0 v23_s0) else if q1 = (0 : Int32) then (allowed_58 q0 v23_s0) else if q0 < (127 : Int32) then (allowed_58 q0 v23_s0) else if (159 : Int32) < q0 then (allowed_58 q0 v23_s0) else if q0 = (133 : Int32) then (allowed_58 q0 v23_s0) else (allowed_54 q0 v23_s0)
def allowed_18 (q0 : Int32) (q1 : Int32) : Int32 := (allowed_23 q0 q1 (1 : Int32))
def allowed (q0 : Int32) (q1 : Int32) : Int32 := if q0 = (9 : Int32) then (allowed_18 q0 q1) else if q0 = (10 : Int32) then (allowed_18 q0 q1) else if q0 = (13 : Int32) then (allowed_18 q0 q1) else (allowed_23 q0 q1 (0 : Int32))
set_option maxRecDepth 65536 in
set_option maxHeartbeats 40000000 in
theorem rm_allowed (l : Launch) (Z : State) (a0 : Array Value) (hw : ∀ d ∈ tables_1, d.before a0 Z = true) (ws : List Jvm.Cond) (q0 : Int32) (q1 : Int32) (h0 : Heap) :
    MetFree l (⟨"com/example/boughcheck/boughcheck/MarkupDeclarations", "allowed", "(IZ)Z"⟩ : MethodName) (head1 (Jvm.Cond.code (⟨"com/example/boughcheck/boughcheck/MarkupDeclarations", "allowed", "(IZ)Z"⟩ : MethodName) prog_200_method_8_code 4 (some .boolean) :: ws) ({ frames := 0, cells := 0, slots := 0, locals := 0 } : Room)) (fun a U => a = #[(.int q0), (.int q1)] ∧ Z.Warmed39 U.vm ∧ U.heap = h0) (fun _ _ _ _ _ => True) (fun _ U o U' => ∃ v L, o = .returned v ∧ QP (Value.int (allowed q0 q1)) h0 v U'.heap L ∧ FrameEnd U o U' L 0 0) := by
  refine MetFree.of_bodySF (plainFor_of_name pn_1) hisR ?_
  intro p e s m args below meth c s₁ Bd hml0 hP hK
  obtain ⟨rfl, hZ, hh⟩ := hP
  have hx := Bd.exec
  have hby := Bd.bytes
  have hlk : meth.locks = false := Bd.notSynchronized
  have hml : c.maxLocals = 4 := hml0
  have hown : s.vm.findClass "com/example/boughcheck/boughcheck/MarkupDeclarations" = some m.cls := findClass_of_methodNamed Bd.named
  have X0 : Stand p l e ({ frames := 0, cells := 0, slots := 0, locals := 0 } : Room) s m #[(.int q0), (.int q1)] below meth c s₁ [] 0 0 := Stand.of_body Bd
  have e0 : s₁.heap = h0 := by rw [← hh, Bd.state]; rfl
  have ballowed_91 : ∀ (T : State) (X : Stand p l e ({ frames := 0, cells := 0, slots := 0, locals := 0 } : Room) s m #[(.int q0), (.int q1)] below meth c T [] 0 0) (eT : T.heap = h0) (v23_s0 : Int32) (v59_s0 : Int32) (v91_s0 : Int32), OEnds p e below s (QP (Value.int (allowed_91 v91_s0)) h0) 0 0 (T.setTop (mkF m 91 #[.val (.int q0), .val (.int q1), .val (.int v23_s0), .val (.int v59_s0)] [(.int v91_s0)])) := by
    intro T X eT v23_s0 v59_s0 v91_s0
    exact own_retN X hx hlk .boolean (by simp) Bd.returns (hb hby d1_91) ⟨congrArg (fun z => some (Value.int z)) (Eq.symm (by rw [allowed_91] <;> rfl)), rfl, eT⟩ (Nat.le_refl _) (Nat.le_refl _)
  have ballowed_90 : ∀ (T : State) (X : Stand p l e ({ frames := 0, cells := 0, slots := 0, locals := 0 } : Room) s m #[(.int q0), (.int q1)] below meth c T [] 0 0) (eT : T.heap = h0) (v23_s0 : Int32) (v59_s0 : Int32), OEnds p e below s (QP (Value.int (allowed_90)) h0) 0 0 (T.setTop (mkF m 90 #[.val (.int q0), .val (.int q1), .val (.int v23_s0), .val (.int v59_s0)] [])) := by
    intro T X eT v23_s0 v59_s0
    refine own_by (fun _ k => XS.iconst X.here hx rfl (hb hby d1_90) k) ?_
    show OEnds p e below s _ _ _ (T.setTop (mkF m 91 #[.val (.int q0), .val (.int q1), .val (.int v23_s0), .val (.int v59_s0)] [(.int (0 : Int32))]))
    exact own_eq (congrArg Value.int (by rw [allowed_90] <;> rfl)) (ballowed_91 T X eT v23_s0 v59_s0 (0 : Int32))
  have ballowed_86 : ∀ (T : State) (X : Stand p l e ({ frames := 0, cells := 0, slots := 0, locals := 0 } : Room) s m #[(.int q0), (.int q1)] below meth c T [] 0 0) (eT : T.heap = h0) (v23_s0 : Int32) (v59_s0 : Int32), OEnds p e below s (QP (Value.int (allowed_86)) h0) 0 0 (T.setTop (mkF m 86 #[.val (.int q0), .val (.int q1), .val (.int v23_s0), .val (.int v59_s0)] [])) := by
    intro T X eT v23_s0 v59_s0
    refine own_by (fun _ k => XS.iconst X.here hx rfl (hb hby d1_86) k) ?_
    show OEnds p e below s _ _ _ (T.setTop (mkF m 87 #[.val (.int q0), .val (.int q1), .val (.int v23_s0), .val (.int v59_s0)] [(.int (1 : Int32))]))
    refine own_by (fun _ k => XS.goto X.here hx rfl (pc0 := 87) (pc' := 91) rfl (hb hby d1_87) (by decide) (by decide) k) ?_
    show OEnds p e below s _ _ _ (T.setTop (mkF m 91 #[.val (.int q0), .val (.int q1), .val (.int v23_s0), .val (.int v59_s0)] [(.int (1 : Int32))]))
    exact own_eq (congrArg Value.int (by rw [allowed_86] <;> rfl)) (ballowed_91 T X eT v23_s0 v59_s0 (1 : Int32))
  have ballowed_59 : ∀ (T : State) (X : Stand p l e ({ frames := 0, cells := 0, slots := 0, locals := 0 } : Room) s m #[(.int q0), (.int q1)] below meth c T [] 0 0) (eT : T.heap = h0) (v23_s0 : Int32) (v59_s0 : Int32), OEnds p e below s (QP (Value.int (allowed_59 q0 v23_s0 v59_s0)) h0) 0 0 (T.setTop (mkF m 59 #[.val (.int q0), .val (.int q1), .val (.int v23_s0), .unset] [(.int v59_s0)])) := by
    intro T X eT v23_s0 v59_s0
    refine own_by (fun _ k => XS.istoreN X.here hx rfl (hb hby d1_59) rfl (l' := #[.val (.int q0), .val (.int q1), .val (.int v23_s0), .val (.int v59_s0)]) rfl k) ?_
    show OEnds p e below s _ _ _ (T.setTop (mkF m 60 #[.val (.int q0), .val (.int q1), .val (.int v23_s0), .val (.int v59_s0)] []))
    refine own_by (fun _ k => XS.iloadN X.here hx rfl (hb hby d1_60) rfl k) ?_
    show OEnds p e below s _ _ _ (T.setTop (mkF m 61 #[.val (.int q0), .val (.int q1), .val (.int v23_s0), .val (.int v59_s0)] [(.int v59_s0)]))
    by_cases hc61 : v59_s0 = (0 : Int32)
    · refine own_by (fun _ k => XS.ifYes X.here hx rfl (pc0 := 61) (pc' := 68) rfl (hb hby d1_61) rfl ((if0 _ _).trans (teq hc61).1) (by decide) (by decide) k) ?_
      show OEnds p e below s _ _ _ (T.setTop (mkF m 68 #[.val (.int q0), .val (.int q1), .val (.int v23_s0), .val (.int v59_s0)] []))
      refine own_by (fun _ k => XS.iloadN X.here hx rfl (hb hby d1_68) rfl k) ?_
      show OEnds p e below s _ _ _ (T.setTop (mkF m 69 #[.val (.int q0), .val (.int q1), .val (.int v23_s0), .val (.int v59_s0)] [(.int q0)]))
      refine own_by (X.ldcInt hx hown (mvT hZ (hw _ (List.mem_of_getElem? (i := 9) rfl))) (g := (mkF m 69 #[.val (.int q0), .val (.int q1), .val (.int v23_s0), .val (.int v59_s0)] [(.int q0)])) rfl (hb hby d1_69)) ?_
      show OEnds p e below s _ _ _ (T.setTop (mkF m 71 #[.val (.int q0), .val (.int q1), .val (.int v23_s0), .val (.int v59_s0)] [(.int (55295 : Int32)), (.int q0)]))
      by_cases hc71 : (55295 : Int32) < q0
      · refine own_by (fun _ k => XS.icmpNo X.here hx rfl (hb hby d1_71) rfl (tlt hc71).2.2.2 k) ?_
        show OEnds p e below s _ _ _ (T.setTop (mkF m 74 #[.val (.int q0), .val (.int q1), .val (.int v23_s0), .val (.int v59_s0)] []))
        refine own_by (fun _ k => XS.iloadN X.here hx rfl (hb hby d1_74) rfl k) ?_
        show OEnds p e below s _ _ _ (T.setTop (mkF m 75 #[.val (.int q0), .val (.int q1), .val (.int v23_s0), .val (.int v59_s0)] [(.int q0)]))
        refine own_by (X.ldcInt hx hown (mvT hZ (hw _ (List.mem_of_getElem? (i := 12) rfl))) (g := (mkF m 75 #[.val (.int q0), .val (.int q1), .val (.int v23_s0), .val (.int v59_s0)] [(.int q0)])) rfl (hb hby d1_75)) ?_
        show OEnds p e below s _ _ _ (T.setTop (mkF m 77 #[.val (.int q0), .val (.int q1), .val (.int v23_s0), .val (.int v59_s0)] [(.int (57344 : Int32)), (.int q0)]))
        by_cases hc77 : q0 < (57344 : Int32)
        · refine own_by (fun _ k => XS.icmpYes X.here hx rfl (pc0 := 77) (pc' := 90) rfl (hb hby d1_77) rfl (tlt hc77).1 (by decide) (by decide) k) ?_
          show OEnds p e below s _ _ _ (T.setTop (mkF m 90 #[.val (.int q0), .val (.int q1), .val (.int v23_s0), .val (.int v59_s0)] []))
          exact own_eq (congrArg Value.int (by rw [allowed_59, if_pos hc61, if_pos hc71, if_pos hc77] <;> rfl)) (ballowed_90 T X eT v23_s0 v59_s0)
        · refine own_by (fun _ k => XS.icmpNo X.here hx rfl (hb hby d1_77) rfl (flt hc77).1 k) ?_
          show OEnds p e below s _ _ _ (T.setTop (mkF m 80 #[.val (.int q0), .val (.int q1), .val (.int v23_s0), .val (.int v59_s0)] []))
          refine own_by (fun _ k => XS.iloadN X.here hx rfl (hb hby d1_80) rfl k) ?_
          show OEnds p e below s _ _ _ (T.setTop (mkF m 81 #[.val (.int q0), .val (.int q1), .val (.int v23_s0), .val (.int v59_s0)] [(.int q0)]))
          refine own_by (X.ldcInt hx hown (mvT hZ (hw _ (List.mem_of_getElem? (i := 13) rfl))) (g := (mkF m 81 #[.val (.int q0), .val (.int q1), .val (.int v23_s0), .val (.int v59_s0)] [(.int q0)])) rfl (hb hby d1_81)) ?_
          show OEnds p e below s _ _ _ (T.setTop (mkF m 83 #[.val (.int q0), .val (.int q1), .val (.int v23_s0), .val (.int v59_s0)] [(.int (65533 : Int32)), (.int q0)]))
          by_cases hc83 : (65533 : Int32) < q0
          · refine own_by (fun _ k => XS.icmpYes X.here hx rfl (pc0 := 83) (pc' := 90) rfl (hb hby d1_83) rfl (tlt hc83).2.2.1 (by decide) (by decide) k) ?_
            show OEnds p e below s _ _ _ (T.setTop (mkF m 90 #[.val (.int q0), .val (.int q1), .val (.int v23_s0), .val (.int v59_s0)] []))
            exact own_eq (congrArg Value.int (by rw [allowed_59, if_pos hc61, if_pos hc71, if_neg hc77, if_pos hc83] <;> rfl)) (ballowed_90 T X eT v23_s0 v59_s0)
          · refine own_by (fun _ k => XS.icmpNo X.here hx rfl (hb hby d1_83) rfl (flt hc83).2.2.1 k) ?_
            show OEnds p e below s _ _ _ (T.setTop (mkF m 86 #[.val (.int q0), .val (.int q1), .val (.int v23_s0), .val (.int v59_s0)] []))
            exact own_eq (congrArg Value.int (by rw [allowed_59, if_pos hc61, if_pos hc71, if_neg hc77, if_neg hc83] <;> rfl)) (ballowed_86 T X eT v23_s0 v59_s0)
      · refine own_by (fun _ k => XS.icmpYes X.here hx rfl (pc0 := 71) (pc' := 86) rfl (hb hby d1_71) rfl (flt hc71).2.2.2 (by decide) (by decide) k) ?_
        show OEnds p e below s _ _ _ (T.setTop (mkF m 86 #[.val (.int q0), .val (.int q1), .val (.int v23_s0), .val (.int v59_s0)] []))
        exact own_eq (congrArg Value.int (by rw [allowed_59, if_pos hc61, if_neg hc71] <;> rfl)) (ballowed_86 T X eT v23_s0 v59_s0)
    · refine own_by (fun _ k => XS.ifNo X.here hx rfl (hb hby d1_61) rfl ((if0 _ _).trans (feq hc61).1) k) ?_
      show OEnds p e below s _ _ _ (T.setTop (mkF m 64 #[.val (.int q0), .val (.int q1), .val (.int v23_s0), .val (.int v59_s0)] []))
      refine own_by (fun _ k => XS.iloadN X.here hx rfl (hb hby d1_64) rfl k) ?_
      show OEnds p e below s _ _ _ (T.setTop (mkF m 65 #[.val (.int q0), .val (.int q1), .val (.int v23_s0), .val (.int v59_s0)] [(.int v23_s0)]))
      refine own_by (fun _ k => XS.goto X.here hx rfl (pc0 := 65) (pc' := 91) rfl (hb hby d1_65) (by decide) (by decide) k) ?_
      show OEnds p e below s _ _ _ (T.setTop (mkF m 91 #[.val (.int q0), .val (.int q1), .val (.int v23_s0), .val (.int v59_s0)] [(.int v23_s0)]))
      exact own_eq (congrArg Value.int (by rw [allowed_59, if_neg hc61] <;> rfl)) (ballowed_91 T X eT v23_s0 v59_s0 v23_s0)
  have ballowed_58 : ∀ (T : State) (X : Stand p l e ({ frames := 0, cells := 0, slots := 0, locals := 0 } : Room) s m #[(.int q0), (.int q1)] below meth c T [] 0 0) (eT : T.heap = h0) (v23_s0 : Int32), OEnds p e below s (QP (Value.int (allowed_58 q0 v23_s0)) h0) 0 0 (T.setTop (mkF m 58 #[.val (.int q0), .val (.int q1), .val (.int v23_s0), .unset] [])) := by
    intro T X eT v23_s0
    refine own_by (fun _ k => XS.iconst X.here hx rfl (hb hby d1_58) k) ?_
    show OEnds p e below s _ _ _ (T.setTop (mkF m 59 #[.val (.int q0), .val (.int q1), .val (.int v23_s0), .unset] [(.int (0 : Int32))]))
    exact own_eq (congrArg Value.int (by rw [allowed_58] <;> rfl)) (ballowed_59 T X eT v23_s0 (0 : Int32))
  have ballowed_54 : ∀ (T : State) (X : Stand p l e ({ frames := 0, cells := 0, slots := 0, locals := 0 } : Room) s m #[(.int q0), (.int q1)] below meth c T [] 0 0) (eT : T.heap = h0) (v23_s0 : Int32), OEnds p e below s (QP (Value.int (allowed_54 q0 v23_s0)) h0) 0 0 (T.setTop (mkF m 54 #[.val (.int q0), .val (.int q1), .val (.int v23_s0), .unset] [])) := by
    intro T X eT v23_s0
    refine own_by (fun _ k => XS.iconst X.here hx rfl (hb hby d1_54) k) ?_
    show OEnds p e below s _ _ _ (T.setTop (mkF m 55 #[.val (.int q0), .val (.int q1), .val (.int v23_s0), .unset] [(.int (1 : Int32))]))
    refine own_by (fun _ k => XS.goto X.here hx rfl (pc0 := 55) (pc' := 59) rfl (hb hby d1_55) (by decide) (by decide) k) ?_
    show OEnds p e below s _ _ _ (T.setTop (mkF m 59 #[.val (.int q0), .val (.int q1), .val (.int v23_s0), .unset] [(.int (1 : Int32))]))
    exact own_eq (congrArg Value.int (by rw [allowed_54] <;> rfl)) (ballowed_59 T X eT v23_s0 (1 : Int32))
  have ballowed_23 : ∀ (T : State) (X : Stand p l e ({ frames := 0, cells := 0, slots := 0, locals := 0 } : Room) s m #[(.int q0), (.int q1)] below meth c T [] 0 0) (eT : T.heap = h0) (v23_s0 : Int32), OEnds p e below s (QP (Value.int (allowed_23 q0 q1 v23_s0)) h0) 0 0 (T.setTop (mkF m 23 #[.val (.int q0), .val (.int q1), .unset, .unset] [(.int v23_s0)])) := by
    intro T X eT v23_s0
    refine own_by (fun _ k => XS.istoreN X.here hx rfl (hb hby d1_23) rfl (l' := #[.val (.int q0), .val (.int q1), .val (.int v23_s0), .unset]) rfl k) ?_
    show OEnds p e below s _ _ _ (T.setTop (mkF m 24 #[.val (.int q0), .val (.int q1), .val (.int v23_s0), .unset] []))
    refine own_by (fun _ k => XS.iloadN X.here hx rfl (hb hby d1_24) rfl k) ?_
    show OEnds p e below s _ _ _ (T.setTop (mkF m 25 #[.val (.int q0), .val (.int q1), .val (.int v23_s0), .unset] [(.int q0)]))
    refine own_by (fun _ k => XS.bipush X.here hx rfl (hb hby d1_25) k) ?_
    show OEnds p e below s _ _ _ (T.setTop (mkF m 27 #[.val (.int q0), .val (.int q1), .val (.int v23_s0), .unset] [(.int (32 : Int32)), (.int q0)]))
    by_cases hc27 : q0 < (32 : Int32)
    · refine own_by (fun _ k => XS.icmpYes X.here hx rfl (pc0 := 27) (pc' := 54) rfl (hb hby d1_27) rfl (tlt hc27).1 (by decide) (by decide) k) ?_
      show OEnds p e below s _ _ _ (T.setTop (mkF m 54 #[.val (.int q0), .val (.int q1), .val (.int v23_s0), .unset] []))
      exact own_eq (congrArg Value.int (by rw [allowed_23, if_pos hc27] <;> rfl)) (ballowed_54 T X eT v23_s0)
    · refine own_by (fun _ k => XS.icmpNo X.here hx rfl (hb hby d1_27) rfl (flt hc27).1 k) ?_
      show OEnds p e below s _ _ _ (T.setTop (mkF m 30 #[.val (.int q0), .val (.int q1), .val (.int v23_s0), .unset] []))
      refine own_by (fun _ k => XS.iloadN X.here hx rfl (hb hby d1_30) rfl k) ?_
      show OEnds p e below s _ _ _ (T.setTop (mkF m 31 #[.val (.int q0), .val (.int q1), .val (.int v23_s0), .unset] [(.int q1)]))
      by_cases hc31 : q1 = (0 : Int32)
      · refine own_by (fun _ k => XS.ifYes X.here hx rfl (pc0 := 31) (pc' := 58) rfl (hb hby d1_31) rfl ((if0 _ _).trans (teq hc31).1) (by decide) (by decide) k) ?_
        show OEnds p e below s _ _ _ (T.setTop (mkF m 58 #[.val (.int q0), .val (.int q1), .val (.int v23_s0), .unset] []))
        exact own_eq (congrArg Value.int (by rw [allowed_23, if_neg hc27, if_pos hc31] <;> rfl)) (ballowed_58 T X eT v23_s0)
      · refine own_by (fun _ k => XS.ifNo X.here hx rfl (hb hby d1_31) rfl ((if0 _ _).trans (feq hc31).1) k) ?_
        show OEnds p e below s _ _ _ (T.setTop (mkF m 34 #[.val (.int q0), .val (.int q1), .val (.int v23_s0), .unset] []))
        refine own_by (fun _ k => XS.iloadN X.here hx rfl (hb hby d1_34) rfl k) ?_
        show OEnds p e below s _ _ _ (T.setTop (mkF m 35 #[.val (.int q0), .val (.int q1), .val (.int v23_s0), .unset] [(.int q0)]))
        refine own_by (fun _ k => XS.bipush X.here hx rfl (hb hby d1_35) k) ?_
        show OEnds p e below s _ _ _ (T.setTop (mkF m 37 #[.val (.int q0), .val (.int q1), .val (.int v23_s0), .unset] [(.int (127 : Int32)), (.int q0)]))
        by_cases hc37 : q0 < (127 : Int32)
        · refine own_by (fun _ k => XS.icmpYes X.here hx rfl (pc0 := 37) (pc' := 58) rfl (hb hby d1_37) rfl (tlt hc37).1 (by decide) (by decide) k) ?_
          show OEnds p e below s _ _ _ (T.setTop (mkF m 58 #[.val (.int q0), .val (.int q1), .val (.int v23_s0), .unset] []))
          exact own_eq (congrArg Value.int (by rw [allowed_23, if_neg hc27, if_neg hc31, if_pos hc37] <;> rfl)) (ballowed_58 T X eT v23_s0)
        · refine own_by (fun _ k => XS.icmpNo X.here hx rfl (hb hby d1_37) rfl (flt hc37).1 k) ?_
          show OEnds p e below s _ _ _ (T.setTop (mkF m 40 #[.val (.int q0), .val (.int q1), .val (.int v23_s0), .unset] []))
          refine own_by (fun _ k => XS.iloadN X.here hx rfl (hb hby d1_40) rfl k) ?_
          show OEnds p e below s _ _ _ (T.setTop (mkF m 41 #[.val (.int q0), .val (.int q1), .val (.int v23_s0), .unset] [(.int q0)]))
          refine own_by (fun _ k => XS.sipush X.here hx rfl (hb hby d1_41) k) ?_
          show OEnds p e below s _ _ _ (T.setTop (mkF m 44 #[.val (.int q0), .val (.int q1), .val (.int v23_s0), .unset] [(.int (159 : Int32)), (.int q0)]))
          by_cases hc44 : (159 : Int32) < q0
          · refine own_by (fun _ k => XS.icmpYes X.here hx rfl (pc0 := 44) (pc' := 58) rfl (hb hby d1_44) rfl (tlt hc44).2.2.1 (by decide) (by decide) k) ?_
            show OEnds p e below s _ _ _ (T.setTop (mkF m 58 #[.val (.int q0), .val (.int q1), .val (.int v23_s0), .unset] []))
            exact own_eq (congrArg Value.int (by rw [allowed_23, if_neg hc27, if_neg hc31, if_neg hc37, if_pos hc44] <;> rfl)) (ballowed_58 T X eT v23_s0)
          · refine own_by (fun _ k => XS.icmpNo X.here hx rfl (hb hby d1_44) rfl (flt hc44).2.2.1 k) ?_
            show OEnds p e below s _ _ _ (T.setTop (mkF m 47 #[.val (.int q0), .val (.int q1), .val (.int v23_s0), .unset] []))
            refine own_by (fun _ k => XS.iloadN X.here hx rfl (hb hby d1_47) rfl k) ?_
            show OEnds p e below s _ _ _ (T.setTop (mkF m 48 #[.val (.int q0), .val (.int q1), .val (.int v23_s0), .unset] [(.int q0)]))
            refine own_by (fun _ k => XS.sipush X.here hx rfl (hb hby d1_48) k) ?_
            show OEnds p e below s _ _ _ (T.setTop (mkF m 51 #[.val (.int q0), .val (.int q1), .val (.int v23_s0), .unset] [(.int (133 : Int32)), (.int q0)]))
            by_cases hc51 : q0 = (133 : Int32)
            · refine own_by (fun _ k => XS.icmpYes X.here hx rfl (pc0 := 51) (pc' := 58) rfl (hb hby d1_51) rfl (teq hc51).1 (by decide) (by decide) k) ?_
              show OEnds p e below s _ _ _ (T.setTop (mkF m 58 #[.val (.int q0), .val (.int q1), .val (.int v23_s0), .unset] []))
              exact own_eq (congrArg Value.int (by rw [allowed_23, if_neg hc27, if_neg hc31, if_neg hc37, if_neg hc44, if_pos hc51] <;> rfl)) (ballowed_58 T X eT v23_s0)
            · refine own_by (fun _ k => XS.icmpNo X.here hx rfl (hb hby d1_51) rfl (feq hc51).1 k) ?_
              show OEnds p e below s _ _ _ (T.setTop (mkF m 54 #[.val (.int q0), .val (.int q1), .val (.int v23_s0), .unset] []))
              exact own_eq (congrArg Value.int (by rw [allowed_23, if_neg hc27, if_neg hc31, if_neg hc37, if_neg hc44, if_neg hc51] <;> rfl)) (ballowed_54 T X eT v23_s0)
  have ballowed_18 : ∀ (T : State) (X : Stand p l e ({ frames := 0, cells := 0, slots := 0, locals := 0 } : Room) s m #[(.int q0), (.int q1)] below meth c T [] 0 0) (eT : T.heap = h0), OEnds p e below s (QP (Value.int (allowed_18 q0 q1)) h0) 0 0 (T.setTop (mkF m 18 #[.val (.int q0), .val (.int q1), .unset, .unset] [])) := by
    intro T X eT
    refine own_by (fun _ k => XS.iconst X.here hx rfl (hb hby d1_18) k) ?_
    show OEnds p e below s _ _ _ (T.setTop (mkF m 19 #[.val (.int q0), .val (.int q1), .unset, .unset] [(.int (1 : Int32))]))
    refine own_by (fun _ k => XS.goto X.here hx rfl (pc0 := 19) (pc' := 23) rfl (hb hby d1_19) (by decide) (by decide) k) ?_
    show OEnds p e below s _ _ _ (T.setTop (mkF m 23 #[.val (.int q0), .val (.int q1), .unset, .unset] [(.int (1 : Int32))]))
    exact own_eq (congrArg Value.int (by rw [allowed_18] <;> rfl)) (ballowed_23 T X eT (1 : Int32))
  show OEnds p e below s _ _ _ _
  refine own_by (fun t k => castTop (ef_1 m q0 q1) k) ?_
  show OEnds p e below s _ _ _ (s₁.setTop (mkF m 0 #[.val (.int q0), .val (.int q1), .unset, .unset] []))
  refine own_by (fun _ k => XS.iloadN X0.here hx rfl (hb hby d1_0) rfl k) ?_
  show OEnds p e below s _ _ _ (s₁.setTop (mkF m 1 #[.val (.int q0), .val (.int q1), .unset, .unset] [(.int q0)]))
  refine own_by (fun _ k => XS.bipush X0.here hx rfl (hb hby d1_1) k) ?_
  show OEnds p e below s _ _ _ (s₁.setTop (mkF m 3 #[.val (.int q0), .val (.int q1), .unset, .unset] [(.int (9 : Int32)), (.int q0)]))
  by_cases hc3 : q0 = (9 : Int32)
  · refine own_by (fun _ k => XS.icmpYes X0.here hx rfl (pc0 := 3) (pc' := 18) rfl (hb hby d1_3) rfl (teq hc3).1 (by decide) (by decide) k) ?_
    show OEnds p e below s _ _ _ (s₁.setTop (mkF m 18 #[.val (.int q0), .val (.int q1), .unset, .unset] []))
    exact own_eq (congrArg Value.int (by rw [allowed, if_pos hc3] <;> rfl)) (ballowed_18 s₁ X0 e0)
  · refine own_by (fun _ k => XS.icmpNo X0.here hx rfl (hb hby d1_3) rfl (feq hc3).1 k) ?_
    show OEnds p e below s _ _ _ (s₁.setTop (mkF m 6 #[.val (.int q0), .val (.int q1), .unset, .unset] []))
    refine own_by (fun _ k => XS.iloadN X0.here hx rfl (hb hby d1_6) rfl k) ?_
    show OEnds p e below s _ _ _ (s₁.setTop (mkF m 7 #[.val (.int q0), .val (.int q1), .unset, .unset] [(.int q0)]))
    refine own_by (fun _ k => XS.bipush X0.here hx rfl (hb hby d1_7) k) ?_
    show OEnds p e below s _ _ _ (s₁.setTop (mkF m 9 #[.val (.int q0), .val (.int q1), .unset, .unset] [(.int (10 : Int32)), (.int q0)]))
    by_cases hc9 : q0 = (10 : Int32)
    · refine own_by (fun _ k => XS.icmpYes X0.here hx rfl (pc0 := 9) (pc' := 18) rfl (hb hby d1_9) rfl (teq hc9).1 (by decide) (by decide) k) ?_
      show OEnds p e below s _ _ _ (s₁.setTop (mkF m 18 #[.val (.int q0), .val (.int q1), .unset, .unset] []))
      exact own_eq (congrArg Value.int (by rw [allowed, if_neg hc3, if_pos hc9] <;> rfl)) (ballowed_18 s₁ X0 e0)
    · refine own_by (fun _ k => XS.icmpNo X0.here hx rfl (hb hby d1_9) rfl (feq hc9).1 k) ?_
      show OEnds p e below s _ _ _ (s₁.setTop (mkF m 12 #[.val (.int q0), .val (.int q1), .unset, .unset] []))
      refine own_by (fun _ k => XS.iloadN X0.here hx rfl (hb hby d1_12) rfl k) ?_
      show OEnds p e below s _ _ _ (s₁.setTop (mkF m 13 #[.val (.int q0), .val (.int q1), .unset, .unset] [(.int q0)]))
      refine own_by (fun _ k => XS.bipush X0.here hx rfl (hb hby d1_13) k) ?_
      show OEnds p e below s _ _ _ (s₁.setTop (mkF m 15 #[.val (.int q0), .val (.int q1), .unset, .unset] [(.int (13 : Int32)), (.int q0)]))
      by_cases hc15 : q0 = (13 : Int32)
      · refine own_by (fun _ k => XS.icmpNo X0.here hx rfl (hb hby d1_15) rfl (teq hc15).2 k) ?_
        show OEnds p e below s _ _ _ (s₁.setTop (mkF m 18 #[.val (.int q0), .val (.int q1), .unset, .unset] []))
        exact own_eq (congrArg Value.int (by rw [allowed, if_neg hc3, if_neg hc9, if_pos hc15] <;> rfl)) (ballowed_18 s₁ X0 e0)
      · refine own_by (fun _ k => XS.icmpYes X0.here hx rfl (pc0 := 15) (pc' := 22) rfl (hb hby d1_15) rfl (feq hc15).2 (by decide) (by decide) k) ?_
        show OEnds p e below s _ _ _ (s₁.setTop (mkF m 22 #[.val (.int q0), .val (.int q1), .unset, .unset] []))
        refine own_by (fun _ k => XS.iconst X0.here hx rfl (hb hby d1_22) k) ?_
        show OEnds p e below s _ _ _ (s₁.setTop (mkF m 23 #[.val (.int q0), .val (.int q1), .unset, .unset] [(.int (0 : Int32))]))
        exact own_eq (congrArg Value.int (by rw [allowed, if_neg hc3, if_neg hc9, if_neg hc15] <;> rfl)) (ballowed_23 s₁ X0 e0 (0 : Int32))
theorem d2_0 : decode method_2_code 0 = .ok (.iload_n 0, 1) := by decide +kernel
theorem d2_1 : decode method_2_code 1 = .ok (.bipush 9, 2) := by decide +kernel
theorem d2_3 : decode method_2_code 3 = .ok (.if_icmp .eq 15, 3) := by decide +kernel
theorem d2_6 : decode method_2_code 6 = .ok (.iload_n 0, 1) := by decide +kernel
theorem d2_7 : decode method_2_code 7 = .ok (.bipush 10, 2) := by decide +kernel
theorem d2_9 : decode method_2_code 9 = .ok (.if_icmp .eq 9, 3) := by decide +kernel
theorem d2_12 : decode method_2_code 12 = .ok (.iload_n 0, 1) := by decide +kernel
theorem d2_13 : decode method_2_code 13 = .ok (.bipush 13, 2) := by decide +kernel
theorem d2_15 : decode method_2_code 15 = .ok (.if_icmp .ne 5, 3) := by decide +kernel
theorem d2_18 : decode method_2_code 18 = .ok (.iconst 1, 1) := by decide +kernel
theorem d2_19 : decode method_2_code 19 = .ok (.ireturn, 1) := by decide +kernel
theorem d2_20 : decode method_2_code 20 = .ok (.iload_n 0, 1) := by decide +kernel
theorem d2_21 : decode method_2_code 21 = .ok (.bipush 32, 2) := by decide +kernel
theorem d2_23 : decode method_2_code 23 = .ok (.if_icmp .ge 5, 3) := by decide +kernel
theorem d2_26 : decode method_2_code 26 = .ok (.iconst 0, 1) := by decide +kernel
theorem d2_27 : decode method_2_code 27 = .ok (.ireturn, 1) := by decide +kernel
theorem d2_28 : decode method_2_code 28 = .ok (.iload_n 0, 1) := by decide +kernel
theorem d2_29 : decode method_2_code 29 = .ok (.ldc 7, 2) := by decide +kernel
theorem d2_31 : decode method_2_code 31 = .ok (.if_icmp .lt 11, 3) := by decide +kernel
theorem d2_34 : decode method_2_code 34 = .ok (.iload_n 0, 1) := by decide +kernel
theorem d2_35 : decode method_2_code 35 = .ok (.ldc 8, 2) := by decide +kernel
theorem d2_37 : decode method_2_code 37 = .ok (.if_icmp .gt 5, 3) := by decide +kernel
theorem d2_40 : decode method_2_code 40 = .ok (.iconst 0, 1) := by decide +kernel
theorem d2_41 : decode method_2_code 41 = .ok (.ireturn, 1) := by decide +kernel
theorem d2_42 : decode method_2_code 42 = .ok (.iload_n 0, 1) := by decide +kernel
theorem d2_43 : decode method_2_code 43 = .ok (.ldc 9, 2) := by decide +kernel
theorem d2_45 : decode method_2_code 45 = .ok (.if_icmp .eq 9, 3) := by decide +kernel
theorem d2_48 : decode method_2_code 48 = .ok (.iload_n 0, 1) := by decide +kernel
theorem d2_49 : decode method_2_code 49 = .ok (.ldc 10, 2) := by decide +kernel
theorem d2_51 : decode method_2_code 51 = .ok (.if_icmp .ne 5, 3) := by decide +kernel
theorem d2_54 : decode method_2_code 54 = .ok (.iconst 0, 1) := by decide +kernel
theorem d2_55 : decode method_2_code 55 = .ok (.ireturn, 1) := by decide +kernel
theorem d2_56 : decode method_2_code 56 = .ok (.iload_n 1, 1) := by decide +kernel
theorem d2_57 : decode method_2_code 57 = .ok (.ifCond .eq 29, 3) := by decide +kernel
theorem d2_60 : decode method_2_code 60 = .ok (.iload_n 0, 1) := by decide +kernel
theorem d2_61 : decode method_2_code 61 = .ok (.bipush 127, 2) := by decide +kernel
theorem d2_63 : decode method_2_code 63 = .ok (.if_icmp .lt 23, 3) := by decide +kernel
theorem d2_66 : decode method_2_code 66 = .ok (.iload_n 0, 1) := by decide +kernel
theorem d2_67 : decode method_2_code 67 = .ok (.sipush 159, 3) := by decide +kernel
theorem d2_70 : decode method_2_code 70 = .ok (.if_icmp .gt 16, 3) := by decide +kernel
theorem d2_73 : decode method_2_code 73 = .ok (.iload_n 0, 1) := by decide +kernel
theorem d2_74 : decode method_2_code 74 = .ok (.sipush 133, 3) := by decide +kernel
theorem d2_77 : decode method_2_code 77 = .ok (.if_icmp .ne 7, 3) := by decide +kernel
theorem d2_80 : decode method_2_code 80 = .ok (.iconst 1, 1) := by decide +kernel
theorem d2_81 : decode method_2_code 81 = .ok (.goto 4, 3) := by decide +kernel
theorem d2_84 : decode method_2_code 84 = .ok (.iconst 0, 1) := by decide +kernel
theorem d2_85 : decode method_2_code 85 = .ok (.ireturn, 1) := by decide +kernel
theorem d2_86 : decode method_2_code 86 = .ok (.iconst 1, 1) := by decide +kernel
theorem d2_87 : decode method_2_code 87 = .ok (.ireturn, 1) := by decide +kernel
theorem pn_2 : plainName "com/example/boughcheck/boughcheck/MarkupDeclarationsAllowedPinLaw" = true := by first | (simp [plainName, overriddenIn]; done) | decide +kernel
theorem ef_2 (m : MethodId) (q0 : Int32) (q1 : Int32) : entryFrame m #[(.int q0), (.int q1)] 2 = mkF m 0 #[.val (.int q0), .val (.int q1)] [] := by first | (simp [entryFrame, mkF, argsToLocals, Value.category]; done) | rfl
def expected_86  : Int32 := (1 : Int32)
def expected_85 (v85_s0 : Int32) : Int32 := (nar .boolean v85_s0)
def expected_54  : Int32 := (0 : Int32)
def expected_42 (q0 : Int32) (q1 : Int32) : Int32 := if q0 = (65534 : Int32) then expected_54 else if q0 = (65535 : Int32) then expected_54 else if q1 = (0 : Int32) then expected_86 else if q0 < (127 : Int32) then expected_86 else if (159 : Int32) < q0 then expected_86 else if q0 = (133 : Int32) then (expected_85 (1 : Int32)) else (expected_85 (0 : Int32))
def expected_18  : Int32 := (1 : Int32)
def expected (q0 : Int32) (q1 : Int32) : Int32 := if q0 = (9 : Int32) then expected_18 else if q0 = (10 : Int32) then expected_18 else if q0 = (13 : Int32) then expected_18 else if q0 < (32 : Int32) then (0 : Int32) else if q0 < (55296 : Int32) then (expected_42 q0 q1) else if (57343 : Int32) < q0 then (expected_42 q0 q1) else (0 : Int32)
set_option maxRecDepth 65536 in
set_option maxHeartbeats 40000000 in
theorem rm_expected (l : Launch) (Z : State) (a0 : Array Value) (hw : ∀ d ∈ tables_1, d.before a0 Z = true) (ws : List Jvm.Cond) (q0 : Int32) (q1 : Int32) (h0 : Heap) :
    MetFree l (⟨"com/example/boughcheck/boughcheck/MarkupDeclarationsAllowedPinLaw", "expected", "(IZ)Z"⟩ : MethodName) (head1 (Jvm.Cond.code (⟨"com/example/boughcheck/boughcheck/MarkupDeclarationsAllowedPinLaw", "expected", "(IZ)Z"⟩ : MethodName) method_2_code 2 (some .boolean) :: ws) ({ frames := 0, cells := 0, slots := 0, locals := 0 } : Room)) (fun a U => a = #[(.int q0), (.int q1)] ∧ Z.Warmed39 U.vm ∧ U.heap = h0) (fun _ _ _ _ _ => True) (fun _ U o U' => ∃ v L, o = .returned v ∧ QP (Value.int (expected q0 q1)) h0 v U'.heap L ∧ FrameEnd U o U' L 0 0) := by
  refine MetFree.of_bodySF (plainFor_of_name pn_2) hisR ?_
  intro p e s m args below meth c s₁ Bd hml0 hP hK
  obtain ⟨rfl, hZ, hh⟩ := hP
  have hx := Bd.exec
  have hby := Bd.bytes
  have hlk : meth.locks = false := Bd.notSynchronized
  have hml : c.maxLocals = 2 := hml0
  have hown : s.vm.findClass "com/example/boughcheck/boughcheck/MarkupDeclarationsAllowedPinLaw" = some m.cls := findClass_of_methodNamed Bd.named
  have X0 : Stand p l e ({ frames := 0, cells := 0, slots := 0, locals := 0 } : Room) s m #[(.int q0), (.int q1)] below meth c s₁ [] 0 0 := Stand.of_body Bd
  have e0 : s₁.heap = h0 := by rw [← hh, Bd.state]; rfl
  have bexpected_86 : ∀ (T : State) (X : Stand p l e ({ frames := 0, cells := 0, slots := 0, locals := 0 } : Room) s m #[(.int q0), (.int q1)] below meth c T [] 0 0) (eT : T.heap = h0), OEnds p e below s (QP (Value.int (expected_86)) h0) 0 0 (T.setTop (mkF m 86 #[.val (.int q0), .val (.int q1)] [])) := by
    intro T X eT
    refine own_by (fun _ k => XS.iconst X.here hx rfl (hb hby d2_86) k) ?_
    show OEnds p e below s _ _ _ (T.setTop (mkF m 87 #[.val (.int q0), .val (.int q1)] [(.int (1 : Int32))]))
    exact own_retN X hx hlk .boolean (by simp) Bd.returns (hb hby d2_87) ⟨congrArg (fun z => some (Value.int z)) (Eq.symm (by rw [expected_86] <;> rfl)), rfl, eT⟩ (Nat.le_refl _) (Nat.le_refl _)
  have bexpected_85 : ∀ (T : State) (X : Stand p l e ({ frames := 0, cells := 0, slots := 0, locals := 0 } : Room) s m #[(.int q0), (.int q1)] below meth c T [] 0 0) (eT : T.heap = h0) (v85_s0 : Int32), OEnds p e below s (QP (Value.int (expected_85 v85_s0)) h0) 0 0 (T.setTop (mkF m 85 #[.val (.int q0), .val (.int q1)] [(.int v85_s0)])) := by
    intro T X eT v85_s0
    exact own_retN X hx hlk .boolean (by simp) Bd.returns (hb hby d2_85) ⟨congrArg (fun z => some (Value.int z)) (Eq.symm (by rw [expected_85] <;> rfl)), rfl, eT⟩ (Nat.le_refl _) (Nat.le_refl _)
  have bexpected_54 : ∀ (T : State) (X : Stand p l e ({ frames := 0, cells := 0, slots := 0, locals := 0 } : Room) s m #[(.int q0), (.int q1)] below meth c T [] 0 0) (eT : T.heap = h0), OEnds p e below s (QP (Value.int (expected_54)) h0) 0 0 (T.setTop (mkF m 54 #[.val (.int q0), .val (.int q1)] [])) := by
    intro T X eT
    refine own_by (fun _ k => XS.iconst X.here hx rfl (hb hby d2_54) k) ?_
    show OEnds p e below s _ _ _ (T.setTop (mkF m 55 #[.val (.int q0), .val (.int q1)] [(.int (0 : Int32))]))
    exact own_retN X hx hlk .boolean (by simp) Bd.returns (hb hby d2_55) ⟨congrArg (fun z => some (Value.int z)) (Eq.symm (by rw [expected_54] <;> rfl)), rfl, eT⟩ (Nat.le_refl _) (Nat.le_refl _)
  have bexpected_42 : ∀ (T : State) (X : Stand p l e ({ frames := 0, cells := 0, slots := 0, locals := 0 } : Room) s m #[(.int q0), (.int q1)] below meth c T [] 0 0) (eT : T.heap = h0), OEnds p e below s (QP (Value.int (expected_42 q0 q1)) h0) 0 0 (T.setTop (mkF m 42 #[.val (.int q0), .val (.int q1)] [])) := by
    intro T X eT
    refine own_by (fun _ k => XS.iloadN X.here hx rfl (hb hby d2_42) rfl k) ?_
    show OEnds p e below s _ _ _ (T.setTop (mkF m 43 #[.val (.int q0), .val (.int q1)] [(.int q0)]))
    refine own_by (X.ldcInt hx hown (mvT hZ (hw _ (List.mem_of_getElem? (i := 11) rfl))) (g := (mkF m 43 #[.val (.int q0), .val (.int q1)] [(.int q0)])) rfl (hb hby d2_43)) ?_
    show OEnds p e below s _ _ _ (T.setTop (mkF m 45 #[.val (.int q0), .val (.int q1)] [(.int (65534 : Int32)), (.int q0)]))
    by_cases hc45 : q0 = (65534 : Int32)
    · refine own_by (fun _ k => XS.icmpYes X.here hx rfl (pc0 := 45) (pc' := 54) rfl (hb hby d2_45) rfl (teq hc45).1 (by decide) (by decide) k) ?_
      show OEnds p e below s _ _ _ (T.setTop (mkF m 54 #[.val (.int q0), .val (.int q1)] []))
      exact own_eq (congrArg Value.int (by rw [expected_42, if_pos hc45] <;> rfl)) (bexpected_54 T X eT)
    · refine own_by (fun _ k => XS.icmpNo X.here hx rfl (hb hby d2_45) rfl (feq hc45).1 k) ?_
      show OEnds p e below s _ _ _ (T.setTop (mkF m 48 #[.val (.int q0), .val (.int q1)] []))
      refine own_by (fun _ k => XS.iloadN X.here hx rfl (hb hby d2_48) rfl k) ?_
      show OEnds p e below s _ _ _ (T.setTop (mkF m 49 #[.val (.int q0), .val (.int q1)] [(.int q0)]))
      refine own_by (X.ldcInt hx hown (mvT hZ (hw _ (List.mem_of_getElem? (i := 0) rfl))) (g := (mkF m 49 #[.val (.int q0), .val (.int q1)] [(.int q0)])) rfl (hb hby d2_49)) ?_
      show OEnds p e below s _ _ _ (T.setTop (mkF m 51 #[.val (.int q0), .val (.int q1)] [(.int (65535 : Int32)), (.int q0)]))
      by_cases hc51 : q0 = (65535 : Int32)
      · refine own_by (fun _ k => XS.icmpNo X.here hx rfl (hb hby d2_51) rfl (teq hc51).2 k) ?_
        show OEnds p e below s _ _ _ (T.setTop (mkF m 54 #[.val (.int q0), .val (.int q1)] []))
        exact own_eq (congrArg Value.int (by rw [expected_42, if_neg hc45, if_pos hc51] <;> rfl)) (bexpected_54 T X eT)
      · refine own_by (fun _ k => XS.icmpYes X.here hx rfl (pc0 := 51) (pc' := 56) rfl (hb hby d2_51) rfl (feq hc51).2 (by decide) (by decide) k) ?_
        show OEnds p e below s _ _ _ (T.setTop (mkF m 56 #[.val (.int q0), .val (.int q1)] []))
        refine own_by (fun _ k => XS.iloadN X.here hx rfl (hb hby d2_56) rfl k) ?_
        show OEnds p e below s _ _ _ (T.setTop (mkF m 57 #[.val (.int q0), .val (.int q1)] [(.int q1)]))
        by_cases hc57 : q1 = (0 : Int32)
        · refine own_by (fun _ k => XS.ifYes X.here hx rfl (pc0 := 57) (pc' := 86) rfl (hb hby d2_57) rfl ((if0 _ _).trans (teq hc57).1) (by decide) (by decide) k) ?_
          show OEnds p e below s _ _ _ (T.setTop (mkF m 86 #[.val (.int q0), .val (.int q1)] []))
          exact own_eq (congrArg Value.int (by rw [expected_42, if_neg hc45, if_neg hc51, if_pos hc57] <;> rfl)) (bexpected_86 T X eT)
        · refine own_by (fun _ k => XS.ifNo X.here hx rfl (hb hby d2_57) rfl ((if0 _ _).trans (feq hc57).1) k) ?_
          show OEnds p e below s _ _ _ (T.setTop (mkF m 60 #[.val (.int q0), .val (.int q1)] []))
          refine own_by (fun _ k => XS.iloadN X.here hx rfl (hb hby d2_60) rfl k) ?_
          show OEnds p e below s _ _ _ (T.setTop (mkF m 61 #[.val (.int q0), .val (.int q1)] [(.int q0)]))
          refine own_by (fun _ k => XS.bipush X.here hx rfl (hb hby d2_61) k) ?_
          show OEnds p e below s _ _ _ (T.setTop (mkF m 63 #[.val (.int q0), .val (.int q1)] [(.int (127 : Int32)), (.int q0)]))
          by_cases hc63 : q0 < (127 : Int32)
          · refine own_by (fun _ k => XS.icmpYes X.here hx rfl (pc0 := 63) (pc' := 86) rfl (hb hby d2_63) rfl (tlt hc63).1 (by decide) (by decide) k) ?_
            show OEnds p e below s _ _ _ (T.setTop (mkF m 86 #[.val (.int q0), .val (.int q1)] []))
            exact own_eq (congrArg Value.int (by rw [expected_42, if_neg hc45, if_neg hc51, if_neg hc57, if_pos hc63] <;> rfl)) (bexpected_86 T X eT)
          · refine own_by (fun _ k => XS.icmpNo X.here hx rfl (hb hby d2_63) rfl (flt hc63).1 k) ?_
            show OEnds p e below s _ _ _ (T.setTop (mkF m 66 #[.val (.int q0), .val (.int q1)] []))
            refine own_by (fun _ k => XS.iloadN X.here hx rfl (hb hby d2_66) rfl k) ?_
            show OEnds p e below s _ _ _ (T.setTop (mkF m 67 #[.val (.int q0), .val (.int q1)] [(.int q0)]))
            refine own_by (fun _ k => XS.sipush X.here hx rfl (hb hby d2_67) k) ?_
            show OEnds p e below s _ _ _ (T.setTop (mkF m 70 #[.val (.int q0), .val (.int q1)] [(.int (159 : Int32)), (.int q0)]))
            by_cases hc70 : (159 : Int32) < q0
            · refine own_by (fun _ k => XS.icmpYes X.here hx rfl (pc0 := 70) (pc' := 86) rfl (hb hby d2_70) rfl (tlt hc70).2.2.1 (by decide) (by decide) k) ?_
              show OEnds p e below s _ _ _ (T.setTop (mkF m 86 #[.val (.int q0), .val (.int q1)] []))
              exact own_eq (congrArg Value.int (by rw [expected_42, if_neg hc45, if_neg hc51, if_neg hc57, if_neg hc63, if_pos hc70] <;> rfl)) (bexpected_86 T X eT)
            · refine own_by (fun _ k => XS.icmpNo X.here hx rfl (hb hby d2_70) rfl (flt hc70).2.2.1 k) ?_
              show OEnds p e below s _ _ _ (T.setTop (mkF m 73 #[.val (.int q0), .val (.int q1)] []))
              refine own_by (fun _ k => XS.iloadN X.here hx rfl (hb hby d2_73) rfl k) ?_
              show OEnds p e below s _ _ _ (T.setTop (mkF m 74 #[.val (.int q0), .val (.int q1)] [(.int q0)]))
              refine own_by (fun _ k => XS.sipush X.here hx rfl (hb hby d2_74) k) ?_
              show OEnds p e below s _ _ _ (T.setTop (mkF m 77 #[.val (.int q0), .val (.int q1)] [(.int (133 : Int32)), (.int q0)]))
              by_cases hc77 : q0 = (133 : Int32)
              · refine own_by (fun _ k => XS.icmpNo X.here hx rfl (hb hby d2_77) rfl (teq hc77).2 k) ?_
                show OEnds p e below s _ _ _ (T.setTop (mkF m 80 #[.val (.int q0), .val (.int q1)] []))
                refine own_by (fun _ k => XS.iconst X.here hx rfl (hb hby d2_80) k) ?_
                show OEnds p e below s _ _ _ (T.setTop (mkF m 81 #[.val (.int q0), .val (.int q1)] [(.int (1 : Int32))]))
                refine own_by (fun _ k => XS.goto X.here hx rfl (pc0 := 81) (pc' := 85) rfl (hb hby d2_81) (by decide) (by decide) k) ?_
                show OEnds p e below s _ _ _ (T.setTop (mkF m 85 #[.val (.int q0), .val (.int q1)] [(.int (1 : Int32))]))
                exact own_eq (congrArg Value.int (by rw [expected_42, if_neg hc45, if_neg hc51, if_neg hc57, if_neg hc63, if_neg hc70, if_pos hc77] <;> rfl)) (bexpected_85 T X eT (1 : Int32))
              · refine own_by (fun _ k => XS.icmpYes X.here hx rfl (pc0 := 77) (pc' := 84) rfl (hb hby d2_77) rfl (feq hc77).2 (by decide) (by decide) k) ?_
                show OEnds p e below s _ _ _ (T.setTop (mkF m 84 #[.val (.int q0), .val (.int q1)] []))
                refine own_by (fun _ k => XS.iconst X.here hx rfl (hb hby d2_84) k) ?_
                show OEnds p e below s _ _ _ (T.setTop (mkF m 85 #[.val (.int q0), .val (.int q1)] [(.int (0 : Int32))]))
                exact own_eq (congrArg Value.int (by rw [expected_42, if_neg hc45, if_neg hc51, if_neg hc57, if_neg hc63, if_neg hc70, if_neg hc77] <;> rfl)) (bexpected_85 T X eT (0 : Int32))
  have bexpected_18 : ∀ (T : State) (X : Stand p l e ({ frames := 0, cells := 0, slots := 0, locals := 0 } : Room) s m #[(.int q0), (.int q1)] below meth c T [] 0 0) (eT : T.heap = h0), OEnds p e below s (QP (Value.int (expected_18)) h0) 0 0 (T.setTop (mkF m 18 #[.val (.int q0), .val (.int q1)] [])) := by
    intro T X eT
    refine own_by (fun _ k => XS.iconst X.here hx rfl (hb hby d2_18) k) ?_
    show OEnds p e below s _ _ _ (T.setTop (mkF m 19 #[.val (.int q0), .val (.int q1)] [(.int (1 : Int32))]))
    exact own_retN X hx hlk .boolean (by simp) Bd.returns (hb hby d2_19) ⟨congrArg (fun z => some (Value.int z)) (Eq.symm (by rw [expected_18] <;> rfl)), rfl, eT⟩ (Nat.le_refl _) (Nat.le_refl _)
  show OEnds p e below s _ _ _ _
  refine own_by (fun t k => castTop (ef_2 m q0 q1) k) ?_
  show OEnds p e below s _ _ _ (s₁.setTop (mkF m 0 #[.val (.int q0), .val (.int q1)] []))
  refine own_by (fun _ k => XS.iloadN X0.here hx rfl (hb hby d2_0) rfl k) ?_
  show OEnds p e below s _ _ _ (s₁.setTop (mkF m 1 #[.val (.int q0), .val (.int q1)] [(.int q0)]))
  refine own_by (fun _ k => XS.bipush X0.here hx rfl (hb hby d2_1) k) ?_
  show OEnds p e below s _ _ _ (s₁.setTop (mkF m 3 #[.val (.int q0), .val (.int q1)] [(.int (9 : Int32)), (.int q0)]))
  by_cases hc3 : q0 = (9 : Int32)
  · refine own_by (fun _ k => XS.icmpYes X0.here hx rfl (pc0 := 3) (pc' := 18) rfl (hb hby d2_3) rfl (teq hc3).1 (by decide) (by decide) k) ?_
    show OEnds p e below s _ _ _ (s₁.setTop (mkF m 18 #[.val (.int q0), .val (.int q1)] []))
    exact own_eq (congrArg Value.int (by rw [expected, if_pos hc3] <;> rfl)) (bexpected_18 s₁ X0 e0)
  · refine own_by (fun _ k => XS.icmpNo X0.here hx rfl (hb hby d2_3) rfl (feq hc3).1 k) ?_
    show OEnds p e below s _ _ _ (s₁.setTop (mkF m 6 #[.val (.int q0), .val (.int q1)] []))
    refine own_by (fun _ k => XS.iloadN X0.here hx rfl (hb hby d2_6) rfl k) ?_
    show OEnds p e below s _ _ _ (s₁.setTop (mkF m 7 #[.val (.int q0), .val (.int q1)] [(.int q0)]))
    refine own_by (fun _ k => XS.bipush X0.here hx rfl (hb hby d2_7) k) ?_
    show OEnds p e below s _ _ _ (s₁.setTop (mkF m 9 #[.val (.int q0), .val (.int q1)] [(.int (10 : Int32)), (.int q0)]))
    by_cases hc9 : q0 = (10 : Int32)
    · refine own_by (fun _ k => XS.icmpYes X0.here hx rfl (pc0 := 9) (pc' := 18) rfl (hb hby d2_9) rfl (teq hc9).1 (by decide) (by decide) k) ?_
      show OEnds p e below s _ _ _ (s₁.setTop (mkF m 18 #[.val (.int q0), .val (.int q1)] []))
      exact own_eq (congrArg Value.int (by rw [expected, if_neg hc3, if_pos hc9] <;> rfl)) (bexpected_18 s₁ X0 e0)
    · refine own_by (fun _ k => XS.icmpNo X0.here hx rfl (hb hby d2_9) rfl (feq hc9).1 k) ?_
      show OEnds p e below s _ _ _ (s₁.setTop (mkF m 12 #[.val (.int q0), .val (.int q1)] []))
      refine own_by (fun _ k => XS.iloadN X0.here hx rfl (hb hby d2_12) rfl k) ?_
      show OEnds p e below s _ _ _ (s₁.setTop (mkF m 13 #[.val (.int q0), .val (.int q1)] [(.int q0)]))
      refine own_by (fun _ k => XS.bipush X0.here hx rfl (hb hby d2_13) k) ?_
      show OEnds p e below s _ _ _ (s₁.setTop (mkF m 15 #[.val (.int q0), .val (.int q1)] [(.int (13 : Int32)), (.int q0)]))
      by_cases hc15 : q0 = (13 : Int32)
      · refine own_by (fun _ k => XS.icmpNo X0.here hx rfl (hb hby d2_15) rfl (teq hc15).2 k) ?_
        show OEnds p e below s _ _ _ (s₁.setTop (mkF m 18 #[.val (.int q0), .val (.int q1)] []))
        exact own_eq (congrArg Value.int (by rw [expected, if_neg hc3, if_neg hc9, if_pos hc15] <;> rfl)) (bexpected_18 s₁ X0 e0)
      · refine own_by (fun _ k => XS.icmpYes X0.here hx rfl (pc0 := 15) (pc' := 20) rfl (hb hby d2_15) rfl (feq hc15).2 (by decide) (by decide) k) ?_
        show OEnds p e below s _ _ _ (s₁.setTop (mkF m 20 #[.val (.int q0), .val (.int q1)] []))
        refine own_by (fun _ k => XS.iloadN X0.here hx rfl (hb hby d2_20) rfl k) ?_
        show OEnds p e below s _ _ _ (s₁.setTop (mkF m 21 #[.val (.int q0), .val (.int q1)] [(.int q0)]))
        refine own_by (fun _ k => XS.bipush X0.here hx rfl (hb hby d2_21) k) ?_
        show OEnds p e below s _ _ _ (s₁.setTop (mkF m 23 #[.val (.int q0), .val (.int q1)] [(.int (32 : Int32)), (.int q0)]))
        by_cases hc23 : q0 < (32 : Int32)
        · refine own_by (fun _ k => XS.icmpNo X0.here hx rfl (hb hby d2_23) rfl (tlt hc23).2.1 k) ?_
          show OEnds p e below s _ _ _ (s₁.setTop (mkF m 26 #[.val (.int q0), .val (.int q1)] []))
          refine own_by (fun _ k => XS.iconst X0.here hx rfl (hb hby d2_26) k) ?_
          show OEnds p e below s _ _ _ (s₁.setTop (mkF m 27 #[.val (.int q0), .val (.int q1)] [(.int (0 : Int32))]))
          exact own_retN X0 hx hlk .boolean (by simp) Bd.returns (hb hby d2_27) ⟨congrArg (fun z => some (Value.int z)) (Eq.symm (by rw [expected, if_neg hc3, if_neg hc9, if_neg hc15, if_pos hc23] <;> rfl)), rfl, e0⟩ (Nat.le_refl _) (Nat.le_refl _)
        · refine own_by (fun _ k => XS.icmpYes X0.here hx rfl (pc0 := 23) (pc' := 28) rfl (hb hby d2_23) rfl (flt hc23).2.1 (by decide) (by decide) k) ?_
          show OEnds p e below s _ _ _ (s₁.setTop (mkF m 28 #[.val (.int q0), .val (.int q1)] []))
          refine own_by (fun _ k => XS.iloadN X0.here hx rfl (hb hby d2_28) rfl k) ?_
          show OEnds p e below s _ _ _ (s₁.setTop (mkF m 29 #[.val (.int q0), .val (.int q1)] [(.int q0)]))
          refine own_by (X0.ldcInt hx hown (mvT hZ (hw _ (List.mem_of_getElem? (i := 10) rfl))) (g := (mkF m 29 #[.val (.int q0), .val (.int q1)] [(.int q0)])) rfl (hb hby d2_29)) ?_
          show OEnds p e below s _ _ _ (s₁.setTop (mkF m 31 #[.val (.int q0), .val (.int q1)] [(.int (55296 : Int32)), (.int q0)]))
          by_cases hc31 : q0 < (55296 : Int32)
          · refine own_by (fun _ k => XS.icmpYes X0.here hx rfl (pc0 := 31) (pc' := 42) rfl (hb hby d2_31) rfl (tlt hc31).1 (by decide) (by decide) k) ?_
            show OEnds p e below s _ _ _ (s₁.setTop (mkF m 42 #[.val (.int q0), .val (.int q1)] []))
            exact own_eq (congrArg Value.int (by rw [expected, if_neg hc3, if_neg hc9, if_neg hc15, if_neg hc23, if_pos hc31] <;> rfl)) (bexpected_42 s₁ X0 e0)
          · refine own_by (fun _ k => XS.icmpNo X0.here hx rfl (hb hby d2_31) rfl (flt hc31).1 k) ?_
            show OEnds p e below s _ _ _ (s₁.setTop (mkF m 34 #[.val (.int q0), .val (.int q1)] []))
            refine own_by (fun _ k => XS.iloadN X0.here hx rfl (hb hby d2_34) rfl k) ?_
            show OEnds p e below s _ _ _ (s₁.setTop (mkF m 35 #[.val (.int q0), .val (.int q1)] [(.int q0)]))
            refine own_by (X0.ldcInt hx hown (mvT hZ (hw _ (List.mem_of_getElem? (i := 14) rfl))) (g := (mkF m 35 #[.val (.int q0), .val (.int q1)] [(.int q0)])) rfl (hb hby d2_35)) ?_
            show OEnds p e below s _ _ _ (s₁.setTop (mkF m 37 #[.val (.int q0), .val (.int q1)] [(.int (57343 : Int32)), (.int q0)]))
            by_cases hc37 : (57343 : Int32) < q0
            · refine own_by (fun _ k => XS.icmpYes X0.here hx rfl (pc0 := 37) (pc' := 42) rfl (hb hby d2_37) rfl (tlt hc37).2.2.1 (by decide) (by decide) k) ?_
              show OEnds p e below s _ _ _ (s₁.setTop (mkF m 42 #[.val (.int q0), .val (.int q1)] []))
              exact own_eq (congrArg Value.int (by rw [expected, if_neg hc3, if_neg hc9, if_neg hc15, if_neg hc23, if_neg hc31, if_pos hc37] <;> rfl)) (bexpected_42 s₁ X0 e0)
            · refine own_by (fun _ k => XS.icmpNo X0.here hx rfl (hb hby d2_37) rfl (flt hc37).2.2.1 k) ?_
              show OEnds p e below s _ _ _ (s₁.setTop (mkF m 40 #[.val (.int q0), .val (.int q1)] []))
              refine own_by (fun _ k => XS.iconst X0.here hx rfl (hb hby d2_40) k) ?_
              show OEnds p e below s _ _ _ (s₁.setTop (mkF m 41 #[.val (.int q0), .val (.int q1)] [(.int (0 : Int32))]))
              exact own_retN X0 hx hlk .boolean (by simp) Bd.returns (hb hby d2_41) ⟨congrArg (fun z => some (Value.int z)) (Eq.symm (by rw [expected, if_neg hc3, if_neg hc9, if_neg hc15, if_neg hc23, if_neg hc31, if_neg hc37] <;> rfl)), rfl, e0⟩ (Nat.le_refl _) (Nat.le_refl _)
theorem pn_0 : plainName "com/example/boughcheck/boughcheck/MarkupDeclarationsAllowedPinLaw" = true := by first | (simp [plainName, overriddenIn]; done) | decide +kernel
theorem ef_0 (m : MethodId) (q0 : Int32) (q1 : Int32) : entryFrame m #[(.int q0), (.int q1)] maxLocals = mkF m 0 #[.val (.int q0), .val (.int q1), .unset, .unset] [] := by first | (simp [entryFrame, mkF, argsToLocals, Value.category, maxLocals]; done) | rfl
def law_35 (v35_s0 : Int32) : Int32 := (nar .boolean v35_s0)
def law_16 (q0 : Int32) (v16_s0 : Int32) : Int32 := if (allowed (q0 &&& (65535 : Int32)) v16_s0) = (expected (q0 &&& (65535 : Int32)) v16_s0) then (law_35 (1 : Int32)) else (law_35 (0 : Int32))
def law (q0 : Int32) (q1 : Int32) : Int32 := if (q1 &&& (1 : Int32)) = (0 : Int32) then (law_16 q0 (0 : Int32)) else (law_16 q0 (1 : Int32))
set_option maxRecDepth 65536 in
set_option maxHeartbeats 40000000 in
theorem rm_law (l : Launch) (Z : State) (a0 : Array Value) (hw : ∀ d ∈ tables_1, d.before a0 Z = true) (ws : List Jvm.Cond) (q0 : Int32) (q1 : Int32) (h0 : Heap) :
    MetFree l x (head1 (Jvm.Cond.code x code maxLocals ret :: ws) room_1) (fun a U => a = #[(.int q0), (.int q1)] ∧ Z.Warmed39 U.vm ∧ U.heap = h0) (fun _ _ _ _ _ => True) (fun _ U o U' => ∃ v L, o = .returned v ∧ QP (Value.int (law q0 q1)) h0 v U'.heap L ∧ FrameEnd U o U' L 0 0) := by
  refine MetFree.of_bodySF (plainFor_of_name pn_0) hisR ?_
  intro p e s m args below meth c s₁ Bd hml0 hP hK
  obtain ⟨rfl, hZ, hh⟩ := hP
  have hx := Bd.exec
  have hby := Bd.bytes
  have hlk : meth.locks = false := Bd.notSynchronized
  have hml : c.maxLocals = 4 := hml0
  have hown : s.vm.findClass "com/example/boughcheck/boughcheck/MarkupDeclarationsAllowedPinLaw" = some m.cls := findClass_of_methodNamed Bd.named
  have X0 : Stand p l e room_1 s m #[(.int q0), (.int q1)] below meth c s₁ [] 0 0 := Stand.of_body Bd
  have e0 : s₁.heap = h0 := by rw [← hh, Bd.state]; rfl
  have blaw_35 : ∀ (T : State) (X : Stand p l e room_1 s m #[(.int q0), (.int q1)] below meth c T [] 0 0) (eT : T.heap = h0) (v16_s0 : Int32) (v35_s0 : Int32), OEnds p e below s (QP (Value.int (law_35 v35_s0)) h0) 0 0 (T.setTop (mkF m 35 #[.val (.int q0), .val (.int q1), .val (.int (q0 &&& (65535 : Int32))), .val (.int v16_s0)] [(.int v35_s0)])) := by
    intro T X eT v16_s0 v35_s0
    exact own_retN X hx hlk .boolean (by simp) Bd.returns (hb hby at_35) ⟨congrArg (fun z => some (Value.int z)) (Eq.symm (by rw [law_35] <;> rfl)), rfl, eT⟩ (Nat.le_refl _) (Nat.le_refl _)
  have blaw_16 : ∀ (T : State) (X : Stand p l e room_1 s m #[(.int q0), (.int q1)] below meth c T [] 0 0) (eT : T.heap = h0) (v16_s0 : Int32), OEnds p e below s (QP (Value.int (law_16 q0 v16_s0)) h0) 0 0 (T.setTop (mkF m 16 #[.val (.int q0), .val (.int q1), .val (.int (q0 &&& (65535 : Int32))), .unset] [(.int v16_s0)])) := by
    intro T X eT v16_s0
    refine own_by (fun _ k => XS.istoreN X.here hx rfl (hb hby at_16) rfl (l' := #[.val (.int q0), .val (.int q1), .val (.int (q0 &&& (65535 : Int32))), .val (.int v16_s0)]) rfl k) ?_
    show OEnds p e below s _ _ _ (T.setTop (mkF m 17 #[.val (.int q0), .val (.int q1), .val (.int (q0 &&& (65535 : Int32))), .val (.int v16_s0)] []))
    refine own_by (fun _ k => XS.iloadN X.here hx rfl (hb hby at_17) rfl k) ?_
    show OEnds p e below s _ _ _ (T.setTop (mkF m 18 #[.val (.int q0), .val (.int q1), .val (.int (q0 &&& (65535 : Int32))), .val (.int v16_s0)] [(.int (q0 &&& (65535 : Int32)))]))
    refine own_by (fun _ k => XS.iloadN X.here hx rfl (hb hby at_18) rfl k) ?_
    show OEnds p e below s _ _ _ (T.setTop (mkF m 19 #[.val (.int q0), .val (.int q1), .val (.int (q0 &&& (65535 : Int32))), .val (.int v16_s0)] [(.int v16_s0), (.int (q0 &&& (65535 : Int32)))]))
    obtain ⟨T3, X3, e3, st3⟩ := own_callP X hx hZ (y := (⟨"com/example/boughcheck/boughcheck/MarkupDeclarations", "allowed", "(IZ)Z"⟩ : MethodName)) hown (hw _ (List.mem_of_getElem? (i := 1) rfl)) (hw _ (List.mem_of_getElem? (i := 2) rfl)) (hw _ (List.mem_of_getElem? (i := 3) rfl)) (hw _ (List.mem_of_getElem? (i := 4) rfl)) (by decide) (rm_allowed l Z a0 hw [] (q0 &&& (65535 : Int32)) v16_s0 h0) eT (g := (mkF m 19 #[.val (.int q0), .val (.int q1), .val (.int (q0 &&& (65535 : Int32))), .val (.int v16_s0)] [(.int v16_s0), (.int (q0 &&& (65535 : Int32)))])) rfl (by rw [hml]; rfl) (argsL := [(.int (q0 &&& (65535 : Int32))), (.int v16_s0)]) (rest := []) (lenOf pd_pIZrZ rfl) rfl (W := 0) (by show 2 * 0 + _ ≤ _; exact Nat.le_of_eq rfl) (hb hby at_19) (by decide) (by decide) (by decide) (by decide)
    refine own_by st3 ?_
    show OEnds p e below s _ _ _ (T3.setTop (mkF m 22 #[.val (.int q0), .val (.int q1), .val (.int (q0 &&& (65535 : Int32))), .val (.int v16_s0)] [(.int (allowed (q0 &&& (65535 : Int32)) v16_s0))]))
    refine own_by (fun _ k => XS.iloadN X3.here hx rfl (hb hby at_22) rfl k) ?_
    show OEnds p e below s _ _ _ (T3.setTop (mkF m 23 #[.val (.int q0), .val (.int q1), .val (.int (q0 &&& (65535 : Int32))), .val (.int v16_s0)] [(.int (q0 &&& (65535 : Int32))), (.int (allowed (q0 &&& (65535 : Int32)) v16_s0))]))
    refine own_by (fun _ k => XS.iloadN X3.here hx rfl (hb hby at_23) rfl k) ?_
    show OEnds p e below s _ _ _ (T3.setTop (mkF m 24 #[.val (.int q0), .val (.int q1), .val (.int (q0 &&& (65535 : Int32))), .val (.int v16_s0)] [(.int v16_s0), (.int (q0 &&& (65535 : Int32))), (.int (allowed (q0 &&& (65535 : Int32)) v16_s0))]))
    obtain ⟨T4, X4, e4, st4⟩ := own_callP X3 hx hZ (y := (⟨"com/example/boughcheck/boughcheck/MarkupDeclarationsAllowedPinLaw", "expected", "(IZ)Z"⟩ : MethodName)) hown (hw _ (List.mem_of_getElem? (i := 5) rfl)) (hw _ (List.mem_of_getElem? (i := 6) rfl)) (hw _ (List.mem_of_getElem? (i := 7) rfl)) (hw _ (List.mem_of_getElem? (i := 8) rfl)) (by decide) (rm_expected l Z a0 hw [] (q0 &&& (65535 : Int32)) v16_s0 h0) e3 (g := (mkF m 24 #[.val (.int q0), .val (.int q1), .val (.int (q0 &&& (65535 : Int32))), .val (.int v16_s0)] [(.int v16_s0), (.int (q0 &&& (65535 : Int32))), (.int (allowed (q0 &&& (65535 : Int32)) v16_s0))])) rfl (by rw [hml]; rfl) (argsL := [(.int (q0 &&& (65535 : Int32))), (.int v16_s0)]) (rest := [(.int (allowed (q0 &&& (65535 : Int32)) v16_s0))]) (lenOf pd_pIZrZ rfl) rfl (W := 1) (by show 2 * 0 + _ ≤ _; exact Nat.le_of_eq rfl) (hb hby at_24) (by decide) (by decide) (by decide) (by decide)
    refine own_by st4 ?_
    show OEnds p e below s _ _ _ (T4.setTop (mkF m 27 #[.val (.int q0), .val (.int q1), .val (.int (q0 &&& (65535 : Int32))), .val (.int v16_s0)] [(.int (expected (q0 &&& (65535 : Int32)) v16_s0)), (.int (allowed (q0 &&& (65535 : Int32)) v16_s0))]))
    by_cases hc27 : (allowed (q0 &&& (65535 : Int32)) v16_s0) = (expected (q0 &&& (65535 : Int32)) v16_s0)
    · refine own_by (fun _ k => XS.icmpNo X4.here hx rfl (hb hby at_27) rfl (teq hc27).2 k) ?_
      show OEnds p e below s _ _ _ (T4.setTop (mkF m 30 #[.val (.int q0), .val (.int q1), .val (.int (q0 &&& (65535 : Int32))), .val (.int v16_s0)] []))
      refine own_by (fun _ k => XS.iconst X4.here hx rfl (hb hby at_30) k) ?_
      show OEnds p e below s _ _ _ (T4.setTop (mkF m 31 #[.val (.int q0), .val (.int q1), .val (.int (q0 &&& (65535 : Int32))), .val (.int v16_s0)] [(.int (1 : Int32))]))
      refine own_by (fun _ k => XS.goto X4.here hx rfl (pc0 := 31) (pc' := 35) rfl (hb hby at_31) (by decide) (by decide) k) ?_
      show OEnds p e below s _ _ _ (T4.setTop (mkF m 35 #[.val (.int q0), .val (.int q1), .val (.int (q0 &&& (65535 : Int32))), .val (.int v16_s0)] [(.int (1 : Int32))]))
      exact own_eq (congrArg Value.int (by rw [law_16, if_pos hc27] <;> rfl)) (blaw_35 T4 X4 e4 v16_s0 (1 : Int32))
    · refine own_by (fun _ k => XS.icmpYes X4.here hx rfl (pc0 := 27) (pc' := 34) rfl (hb hby at_27) rfl (feq hc27).2 (by decide) (by decide) k) ?_
      show OEnds p e below s _ _ _ (T4.setTop (mkF m 34 #[.val (.int q0), .val (.int q1), .val (.int (q0 &&& (65535 : Int32))), .val (.int v16_s0)] []))
      refine own_by (fun _ k => XS.iconst X4.here hx rfl (hb hby at_34) k) ?_
      show OEnds p e below s _ _ _ (T4.setTop (mkF m 35 #[.val (.int q0), .val (.int q1), .val (.int (q0 &&& (65535 : Int32))), .val (.int v16_s0)] [(.int (0 : Int32))]))
      exact own_eq (congrArg Value.int (by rw [law_16, if_neg hc27] <;> rfl)) (blaw_35 T4 X4 e4 v16_s0 (0 : Int32))
  show OEnds p e below s _ _ _ _
  refine own_by (fun t k => castTop (ef_0 m q0 q1) k) ?_
  show OEnds p e below s _ _ _ (s₁.setTop (mkF m 0 #[.val (.int q0), .val (.int q1), .unset, .unset] []))
  refine own_by (fun _ k => XS.iloadN X0.here hx rfl (hb hby at_0) rfl k) ?_
  show OEnds p e below s _ _ _ (s₁.setTop (mkF m 1 #[.val (.int q0), .val (.int q1), .unset, .unset] [(.int q0)]))
  refine own_by (X0.ldcInt hx hown (mvT hZ (hw _ (List.mem_of_getElem? (i := 0) rfl))) (g := (mkF m 1 #[.val (.int q0), .val (.int q1), .unset, .unset] [(.int q0)])) rfl (hb hby at_1)) ?_
  show OEnds p e below s _ _ _ (s₁.setTop (mkF m 3 #[.val (.int q0), .val (.int q1), .unset, .unset] [(.int (65535 : Int32)), (.int q0)]))
  refine own_by (fun _ k => XS.iand X0.here hx rfl (hb hby at_3) rfl k) ?_
  show OEnds p e below s _ _ _ (s₁.setTop (mkF m 4 #[.val (.int q0), .val (.int q1), .unset, .unset] [(.int (q0 &&& (65535 : Int32)))]))
  refine own_by (fun _ k => XS.istoreN X0.here hx rfl (hb hby at_4) rfl (l' := #[.val (.int q0), .val (.int q1), .val (.int (q0 &&& (65535 : Int32))), .unset]) rfl k) ?_
  show OEnds p e below s _ _ _ (s₁.setTop (mkF m 5 #[.val (.int q0), .val (.int q1), .val (.int (q0 &&& (65535 : Int32))), .unset] []))
  refine own_by (fun _ k => XS.iloadN X0.here hx rfl (hb hby at_5) rfl k) ?_
  show OEnds p e below s _ _ _ (s₁.setTop (mkF m 6 #[.val (.int q0), .val (.int q1), .val (.int (q0 &&& (65535 : Int32))), .unset] [(.int q1)]))
  refine own_by (fun _ k => XS.iconst X0.here hx rfl (hb hby at_6) k) ?_
  show OEnds p e below s _ _ _ (s₁.setTop (mkF m 7 #[.val (.int q0), .val (.int q1), .val (.int (q0 &&& (65535 : Int32))), .unset] [(.int (1 : Int32)), (.int q1)]))
  refine own_by (fun _ k => XS.iand X0.here hx rfl (hb hby at_7) rfl k) ?_
  show OEnds p e below s _ _ _ (s₁.setTop (mkF m 8 #[.val (.int q0), .val (.int q1), .val (.int (q0 &&& (65535 : Int32))), .unset] [(.int (q1 &&& (1 : Int32)))]))
  by_cases hc8 : (q1 &&& (1 : Int32)) = (0 : Int32)
  · refine own_by (fun _ k => XS.ifYes X0.here hx rfl (pc0 := 8) (pc' := 15) rfl (hb hby at_8) rfl ((if0 _ _).trans (teq hc8).1) (by decide) (by decide) k) ?_
    show OEnds p e below s _ _ _ (s₁.setTop (mkF m 15 #[.val (.int q0), .val (.int q1), .val (.int (q0 &&& (65535 : Int32))), .unset] []))
    refine own_by (fun _ k => XS.iconst X0.here hx rfl (hb hby at_15) k) ?_
    show OEnds p e below s _ _ _ (s₁.setTop (mkF m 16 #[.val (.int q0), .val (.int q1), .val (.int (q0 &&& (65535 : Int32))), .unset] [(.int (0 : Int32))]))
    exact own_eq (congrArg Value.int (by rw [law, if_pos hc8] <;> rfl)) (blaw_16 s₁ X0 e0 (0 : Int32))
  · refine own_by (fun _ k => XS.ifNo X0.here hx rfl (hb hby at_8) rfl ((if0 _ _).trans (feq hc8).1) k) ?_
    show OEnds p e below s _ _ _ (s₁.setTop (mkF m 11 #[.val (.int q0), .val (.int q1), .val (.int (q0 &&& (65535 : Int32))), .unset] []))
    refine own_by (fun _ k => XS.iconst X0.here hx rfl (hb hby at_11) k) ?_
    show OEnds p e below s _ _ _ (s₁.setTop (mkF m 12 #[.val (.int q0), .val (.int q1), .val (.int (q0 &&& (65535 : Int32))), .unset] [(.int (1 : Int32))]))
    refine own_by (fun _ k => XS.goto X0.here hx rfl (pc0 := 12) (pc' := 16) rfl (hb hby at_12) (by decide) (by decide) k) ?_
    show OEnds p e below s _ _ _ (s₁.setTop (mkF m 16 #[.val (.int q0), .val (.int q1), .val (.int (q0 &&& (65535 : Int32))), .unset] [(.int (1 : Int32))]))
    exact own_eq (congrArg Value.int (by rw [law, if_neg hc8] <;> rfl)) (blaw_16 s₁ X0 e0 (1 : Int32))
theorem own_same (c b : Int32) (h0 : 0 ≤ c.toInt) (h1 : c.toInt ≤ 65535) (hb : b = 0 ∨ b = 1) : allowed c b = expected c b := by
  simp only [allowed, allowed_18, allowed_23, allowed_54, allowed_58, allowed_59, allowed_86, allowed_90, allowed_91, expected, expected_18, expected_42, expected_54, expected_85, expected_86]
  have n1 : nar .boolean 1 = 1 := by decide
  have n0 : nar .boolean 0 = 0 := by decide
  rcases hb with rfl | rfl
  all_goals simp only [Int32.lt_iff_toInt_lt, ← Int32.toInt_inj, show (9 : Int32).toInt = 9 from by decide, show (10 : Int32).toInt = 10 from by decide, show (13 : Int32).toInt = 13 from by decide, show (32 : Int32).toInt = 32 from by decide, show (127 : Int32).toInt = 127 from by decide, show (159 : Int32).toInt = 159 from by decide, show (133 : Int32).toInt = 133 from by decide, show (55295 : Int32).toInt = 55295 from by decide, show (57344 : Int32).toInt = 57344 from by decide, show (65533 : Int32).toInt = 65533 from by decide, show (65534 : Int32).toInt = 65534 from by decide, show (65535 : Int32).toInt = 65535 from by decide, show (55296 : Int32).toInt = 55296 from by decide, show (57343 : Int32).toInt = 57343 from by decide, show (0 : Int32).toInt = 0 from by decide, show (1 : Int32).toInt = 1 from by decide, if_true, if_false, show ((1 : Int) = 0) = False from by decide, n1, n0]
  all_goals
    by_cases a0 : c.toInt = 9
    all_goals (by_cases a1 : c.toInt = 10)
    all_goals (try (exfalso; omega))
    all_goals (by_cases a2 : c.toInt = 13)
    all_goals (try (exfalso; omega))
    all_goals (by_cases a3 : c.toInt < 32)
    all_goals (try (exfalso; omega))
    all_goals (by_cases a4 : c.toInt < 127)
    all_goals (try (exfalso; omega))
    all_goals (by_cases a5 : 159 < c.toInt)
    all_goals (try (exfalso; omega))
    all_goals (by_cases a6 : c.toInt = 133)
    all_goals (try (exfalso; omega))
    all_goals (by_cases a7 : 55295 < c.toInt)
    all_goals (try (exfalso; omega))
    all_goals (by_cases a8 : c.toInt < 55296)
    all_goals (try (exfalso; omega))
    all_goals (by_cases a9 : c.toInt < 57344)
    all_goals (try (exfalso; omega))
    all_goals (by_cases a10 : 57343 < c.toInt)
    all_goals (try (exfalso; omega))
    all_goals (by_cases a11 : 65533 < c.toInt)
    all_goals (try (exfalso; omega))
    all_goals (by_cases a12 : c.toInt = 65534)
    all_goals (try (exfalso; omega))
    all_goals (by_cases a13 : c.toInt = 65535)
    all_goals (try (exfalso; omega))
    all_goals (simp only [a0, a1, a2, a3, a4, a5, a6, a7, a8, a9, a10, a11, a12, a13, if_true, if_false] <;> decide)
theorem plain_law (x y : Int32) : law x y = 1 := by
  have h := c_mask x 65535 16 (by decide) (by decide)
  have k := own_same (x &&& 65535) 0 (by omega) (by omega) (Or.inl rfl)
  have k' := own_same (x &&& 65535) 1 (by omega) (by omega) (Or.inr rfl)
  simp only [law, law_16, law_35, k, k', if_true]
  split <;> decide
set_option maxRecDepth 65536 in
set_option maxHeartbeats 40000000 in
theorem comes_1 {Post : Tables → Env → Array Value → State → Outcome → State → Prop} (hpost : ∀ tb e args s v u, (limb_1_1.after args s (.returned v) u = true ∧ limb_1_2.after args s (.returned v) u = true ∧ True) → FrameEnd s (.returned v) u (Jvm.fieldLocs frame_1_writes args s ++ Jvm.arrayLocs frame_1_arrays args s ++ Jvm.staticLocs frame_1_statics s) 0 0 → Post tb e args s (.returned v) u) :
    ArmFor flags0 classFile x code maxLocals ret World_1 tables_1 room_1 Calls_1 rest_1 Pre_1 Post := by
  intro l hfl _ _ p e ha hc hk s m args below hf hA hF happ hP
  obtain ⟨hcalls, hrest, hpre⟩ := hP
  obtain ⟨-, -, -, hnamed, -, -, -, hat⟩ := (Spec.applies_iff hf).mp happ
  obtain ⟨hg, hn⟩ := and_e (Cond.before_iff.mp (show (Jvm.Cond.and given_1 narrow_1).before args s = true from hpre))
  obtain ⟨hct, hg0⟩ := and_e hg
  obtain ⟨ga0, hg1⟩ := and_e hg0
  have ga1 := hg1
  obtain ⟨w0, w1, rfl⟩ : ∃ w0 w1 : Value, args = #[w0, w1] := by
    have hs : args.size = 2 := by simpa [Cond.value, given_1] using hct
    obtain ⟨L⟩ := args
    match L, hs with
    | [w0, w1], _ => exact ⟨w0, w1, rfl⟩
  have hw := fun d (hd : d ∈ tables_1) => atoms_spec (ws := Jvm.Cond.code x code maxLocals ret :: tables_1) hat d (List.mem_cons_of_mem _ hd)
  obtain ⟨i0, ei0⟩ := is_v ga0
  obtain rfl : w0 = (.int i0) := Option.some.inj ei0
  obtain ⟨i1, ei1⟩ := is_v ga1
  obtain rfl : w1 = (.int i1) := Option.some.inj ei1
  obtain ⟨n, o, h1, h2, h3, v, L, rfl, ⟨hv, rfl, hN⟩, hq⟩ := rm_law l s _ hw tables_1 i0 i1 s.heap p e ha hc hk s m _ below hf ((Spec.applies_iff_loose hf).mp happ).1 ⟨rfl, State.Warmed39.refl s, rfl⟩ trivial
  rw [plain_law i0 i1] at hv
  subst hv
  refine ⟨n, _, h1, h2, h3, hpost _ _ _ _ _ _ ⟨Cond.after_iff.mpr rfl, Cond.after_iff.mpr (eq_i res_at (Term.int_eval (1)) rfl), trivial⟩ ⟨hq.1, hq.2.1, (hq.2.2.sift fun y hy => absurd hy List.not_mem_nil).mono (by decide) (by decide)⟩⟩
theorem main_1_1 : Claimed_1_1 := comes_1 fun _ _ _ _ _ _ h hF => ⟨h.1, hF⟩
theorem main_1_2 : Claimed_1_2 := comes_1 fun _ _ _ _ _ _ h hF => ⟨h.2.1, hF⟩
end Jvm.Pilot.@@N@@
namespace Jvm.Pilot.@@N@@
open Jvm Jvm.ClassFile Sem Op Lib Jvm.Free Jvm.Stand Jvm.Pilot.@@N@@.Jvm.D
/-! MADE BY PROGRAM (witnessworld.py) out of the Statement's table words and the real class files: 9 classes; the members and pool entries that the words name. The judged class is class 1, her method 2. -/
namespace start1
open Jvm.ClassFile
def u (s : String) : CpInfo := .utf8 (stringToUtf16 s)
/-- a pool by its gaps: so many unusable entries, then the entry; so many at the end -/
def gap : Nat → List CpInfo → List CpInfo
  | 0, r => r
  | n + 1, r => .unusable :: gap n r
def poolList (es : List (Nat × CpInfo)) (last : Nat) : List CpInfo := es.foldr (fun e r => gap e.1 (e.2 :: r)) (gap last [])
def pool (es : List (Nat × CpInfo)) (last : Nat) : Array CpInfo := ⟨poolList es last⟩
def fileOf (pool : Array CpInfo) (this : Nat) (attrs : Array Attribute := #[]) (ms : Array MethodInfo := #[]) (fl : Nat := 33) (sup : Nat := 0) (ifs : Array Nat := #[]) (fds : Array FieldInfo := #[]) : ClassFile where
  minorVersion := 0
  majorVersion := 65
  constantPool := pool
  accessFlags := fl
  thisClass := this
  superClass := sup
  interfaces := ifs
  fields := fds
  methods := ms
  attributes := attrs
def plain (name : String) (sup : Option ClassId) : Class where
  name := name
  kind := .ordinary
  loader := none
  accessFlags := 33
  super := sup
  interfaces := #[]
  cf := none
  fields := #[]
  methods := #[]
  instanceTypes := #[]
  staticTypes := #[]
  resolved := #[]
  callSites := []
  init := .initialized
  statics := none
  mirror := none

def pool0 : Array CpInfo := pool [(5, u "<init>"), (0, u "()V"), (1, .class_ 10), (1, u "java/lang/Object")] 113

def k0m0 : Method := { name := "<init>", desc := "()V", sig := { parameters := [], returnType := none }, accessFlags := 1, code := none }
/-- java/lang/Object -/
def k0 : Class := { plain "java/lang/Object" none with
  accessFlags := 33
  interfaces := #[]
  cf := some (fileOf pool0 8 #[] #[{ accessFlags := 1, nameIndex := 5, descriptorIndex := 6, attributes := #[] }] 33 0 #[] #[])
  fields := #[]
  methods := #[k0m0]
  instanceTypes := #[]
  staticTypes := #[]
  resolved := Array.replicate 124 none
  statics := none }

def pool1 : Array CpInfo := pool [(2, .class_ 4), (1, u "java/lang/Object"), (0, u "<init>"), (0, u "()V"), (0, .integer 55296), (0, .integer 57343), (0, .integer 65534), (0, .integer 65535), (0, .methodref 12 13), (0, .class_ 14), (0, .nameAndType 15 16), (0, u "com/example/boughcheck/boughcheck/MarkupDeclarations"), (0, u "allowed"), (0, u "(IZ)Z"), (0, .methodref 18 19), (0, .class_ 20), (0, .nameAndType 21 16), (0, u "com/example/boughcheck/boughcheck/MarkupDeclarationsAllowedPinLaw"), (0, u "expected"), (3, u "law"), (0, u "(II)Z")] 2

def k1m0 : Method := { name := "<init>", desc := "()V", sig := { parameters := [], returnType := none }, accessFlags := 2, code := none }
def k1c1 : Code := { maxStack := 2, maxLocals := 2, code := method_2_code, exceptionTable := #[], attributes := #[] }
def k1m1 : Method := { name := "expected", desc := "(IZ)Z", sig := { parameters := [.int, .boolean], returnType := some .boolean }, accessFlags := 10, code := some k1c1 }
def k1c2 : Code := { maxStack := 3, maxLocals := 4, code := code, exceptionTable := #[], attributes := #[] }
def k1m2 : Method := { name := "law", desc := "(II)Z", sig := { parameters := [.int, .int], returnType := some .boolean }, accessFlags := 9, code := some k1c2 }
/-- com/example/boughcheck/boughcheck/MarkupDeclarationsAllowedPinLaw -/
def k1 : Class := { plain "com/example/boughcheck/boughcheck/MarkupDeclarationsAllowedPinLaw" (some 0) with
  accessFlags := 49
  interfaces := #[]
  cf := some (fileOf pool1 18 #[] #[{ accessFlags := 2, nameIndex := 5, descriptorIndex := 6, attributes := #[] }, { accessFlags := 10, nameIndex := 21, descriptorIndex := 16, attributes := #[] }, { accessFlags := 9, nameIndex := 25, descriptorIndex := 26, attributes := #[] }] 49 2 #[] #[])
  fields := #[]
  methods := #[k1m0, k1m1, k1m2]
  instanceTypes := #[]
  staticTypes := #[]
  resolved := Array.replicate 29 none
  statics := none }

def pool2 : Array CpInfo := pool [(2, .class_ 4), (1, u "java/lang/Object"), (6, .class_ 13), (1, u "com/example/boughcheck/boughcheck/MarkupDeclarations"), (0, u "parameters"), (0, u "Ljava/util/Map;"), (7, u "references"), (0, u "Lcom/example/boughcheck/boughcheck/DefaultReferences;"), (95, u "allowed"), (0, u "(IZ)Z"), (16, .integer 55295), (0, .integer 57344), (0, .integer 65533), (17, .class_ 159), (0, u "com/example/boughcheck/boughcheck/MarkupDeclarations$ExternalId")] 364

def k2c0 : Code := { maxStack := 2, maxLocals := 4, code := prog_200_method_8_code, exceptionTable := #[], attributes := #[] }
def k2m0 : Method := { name := "allowed", desc := "(IZ)Z", sig := { parameters := [.int, .boolean], returnType := some .boolean }, accessFlags := 8, code := some k2c0 }
/-- com/example/boughcheck/boughcheck/MarkupDeclarations -/
def k2 : Class := { plain "com/example/boughcheck/boughcheck/MarkupDeclarations" (some 0) with
  accessFlags := 48
  interfaces := #[]
  cf := some (fileOf pool2 11 #[.nestMembers #[158]] #[{ accessFlags := 8, nameIndex := 120, descriptorIndex := 121, attributes := #[] }] 48 2 #[] #[{ accessFlags := 18, nameIndex := 23, descriptorIndex := 24, attributes := #[] }, { accessFlags := 18, nameIndex := 14, descriptorIndex := 15, attributes := #[] }])
  fields := #[{ name := "references", type := (.object "com/example/boughcheck/boughcheck/DefaultReferences"), accessFlags := 18, slot := 0, constantValue := 0 }, { name := "parameters", type := (.object "java/util/Map"), accessFlags := 18, slot := 1, constantValue := 0 }]
  methods := #[k2m0]
  instanceTypes := #[(.object "com/example/boughcheck/boughcheck/DefaultReferences"), (.object "java/util/Map")]
  staticTypes := #[]
  resolved := Array.replicate 524 none
  statics := none }

def pool3 : Array CpInfo := pool [(1, u "java/lang/Cloneable"), (0, .class_ 1), (0, u "java/lang/Object"), (0, .class_ 3)] 3

/-- java/lang/Cloneable -/
def k3 : Class := { plain "java/lang/Cloneable" (some 0) with
  accessFlags := 1537
  interfaces := #[]
  cf := some (fileOf pool3 2 #[] #[] 1537 4 #[] #[])
  fields := #[]
  methods := #[]
  instanceTypes := #[]
  staticTypes := #[]
  resolved := Array.replicate 8 none
  statics := none }

def pool4 : Array CpInfo := pool [(1, u "java/io/Serializable"), (0, .class_ 1), (0, u "java/lang/Object"), (0, .class_ 3)] 3

/-- java/io/Serializable -/
def k4 : Class := { plain "java/io/Serializable" (some 0) with
  accessFlags := 1537
  interfaces := #[]
  cf := some (fileOf pool4 2 #[] #[] 1537 4 #[] #[])
  fields := #[]
  methods := #[]
  instanceTypes := #[]
  staticTypes := #[]
  resolved := Array.replicate 8 none
  statics := none }

/-- the primitive byte -/
def k5 : Class := { plain "byte" none with kind := .primitive 'B', accessFlags := 0x411 }
/-- [B -/
def k6 : Class := { plain "[B" (some 0) with kind := .array 5 .byte, interfaces := #[3, 4], accessFlags := 1041 }

/-- the primitive int -/
def k7 : Class := { plain "int" none with kind := .primitive 'I', accessFlags := 0x411 }
/-- [I -/
def k8 : Class := { plain "[I" (some 0) with kind := .array 7 .int, interfaces := #[3, 4], accessFlags := 1041 }

def heap : Heap := #[]
def classes : Array Class := #[k0, k1, k2, k3, k4, k5, k6, k7, k8]
def interned : List (Array UInt16 × Addr) := []
def slotsUsed : Nat := 0
def theMethod : MethodId := ⟨1, 2⟩
def args0 : Array Value := #[.int 5, .int 1]
def aboutOver (below : List Frame) : State where
  vm := { classes := classes, interned := interned.toArray }
  heap := heap
  slotsUsed := slotsUsed
  threads := #[{ frames := .invoking theMethod args0 :: below }]
def below0 : List Frame := [.native { method := ⟨0, 0⟩, args := #[] }]
def about1 : State := aboutOver below0
def p0 : Program := .bare "" "" ""
def e0 : Env := launch0.env 0 0 0
theorem w_frames : about1.frames = Frame.invoking theMethod args0 :: below0 := rfl
set_option maxRecDepth 65536 in
theorem w_args : argsFit about1.vm theMethod args0 = true := by decide +kernel
set_option maxRecDepth 65536 in
theorem w_heap : heapFits about1 = true := by decide +kernel
set_option maxRecDepth 65536 in
theorem w_runnable : about1.curStatus? = some .runnable := by decide +kernel
set_option maxRecDepth 65536 in
theorem w_alone : about1.alone = true := by decide +kernel
set_option maxRecDepth 65536 in
theorem w_named : about1.methodNamed? x = some theMethod := by decide +kernel
set_option maxRecDepth 65536 in
theorem w_hears : about1.hears theMethod below0 = true := by decide +kernel
set_option maxRecDepth 65536 in
theorem w_ripe : about1.ripe theMethod args0 below0 = true := by decide +kernel
theorem w_running : about1.status = .running := rfl
set_option maxRecDepth 65536 in
theorem w_room : about1.hasRoom e0.platform room_1 = true :=
  launch0.hasRoom_least _ room_1 (by decide +kernel) (by decide +kernel) (by decide +kernel) (by decide +kernel) (by decide +kernel) (by decide +kernel)
theorem allAtoms_all (ts : List Jvm.Cond) (a : Array Jvm.Value) (st : Jvm.State) : (allAtoms ts).before a st = ts.all (fun c => c.before a st) := by
  induction ts with
  | nil => rfl
  | cons c t ih =>
    show (Jvm.Cond.and c (allAtoms t)).before a st = _
    rw [Jvm.Cond.before_and, ih, List.all_cons]
def words1 : List Jvm.Cond := Jvm.Cond.code x code maxLocals ret :: tables_1
/-- a 'code' word, met by the world's own term for the bytes: nothing is compared byte by byte -/
theorem code_word {y : MethodName} {bytes : ByteArray} {mx : Nat} {rt : Option FieldType} {a : Array Value} {s : State} {m : MethodId} {meth : Method} {c : Code} (h1 : s.methodNamed? y = some m) (h2 : s.vm.method? m = some meth) (h3 : meth.code = some c) (h4 : c.code = bytes)
    (h5 : (c.maxLocals == mx && c.exceptionTable.isEmpty && decide (c.maxStack ≤ mostOperands) && decide (meth.sig.returnType = rt) && !meth.locks && decide (parseMethodDescriptor y.desc = some meth.sig)) = true) : (Jvm.Cond.code y bytes mx rt).before a s = true := by
  simp only [Bool.and_eq_true, beq_iff_eq, Bool.not_eq_true', decide_eq_true_eq] at h5
  obtain ⟨⟨⟨⟨⟨g1, g2⟩, g3⟩, g4⟩, g5⟩, g6⟩ := h5
  simp [Cond.before, Cond.holds, Cond.value, h1, h2, h3, h4, g1, g2, g3, g4, g5, g6]
def isCode : Jvm.Cond → Bool
  | .code _ _ _ _ => true
  | _ => false
theorem all_split {L : List Jvm.Cond} {P : Jvm.Cond → Bool} (h1 : L.all (fun c => isCode c || P c) = true) (h2 : ∀ c ∈ L.filter isCode, P c = true) : L.all P = true := by
  refine List.all_eq_true.mpr fun c hc => ?_
  have h := List.all_eq_true.mp h1 c hc
  rcases Bool.eq_false_or_eq_true (isCode c) with hi | hi
  · exact h2 c (List.mem_filter.mpr ⟨hc, hi⟩)
  · simpa [hi] using h
set_option maxRecDepth 65536 in
theorem w_c0 : (Jvm.Cond.code x code maxLocals ret).before args0 about1 = true := code_word (m := ⟨1, 2⟩) (meth := k1m2) (c := k1c2) (by decide +kernel) rfl rfl rfl (by decide +kernel)
set_option maxRecDepth 65536 in
theorem w_c1 : (Jvm.Cond.code ({ cls := "com/example/boughcheck/boughcheck/MarkupDeclarations", name := "allowed", desc := "(IZ)Z" } : Jvm.MethodName) prog_200_method_8_code (4 : Nat) (Option.some Jvm.ClassFile.FieldType.boolean)).before args0 about1 = true := code_word (m := ⟨2, 0⟩) (meth := k2m0) (c := k2c0) (by decide +kernel) rfl rfl rfl (by decide +kernel)
set_option maxRecDepth 65536 in
theorem w_c2 : (Jvm.Cond.code ({ cls := "com/example/boughcheck/boughcheck/MarkupDeclarationsAllowedPinLaw", name := "expected", desc := "(IZ)Z" } : Jvm.MethodName) method_2_code (2 : Nat) (Option.some Jvm.ClassFile.FieldType.boolean)).before args0 about1 = true := code_word (m := ⟨1, 1⟩) (meth := k1m1) (c := k1c1) (by decide +kernel) rfl rfl rfl (by decide +kernel)
def codes1 : List Jvm.Cond := [Jvm.Cond.code x code maxLocals ret, Jvm.Cond.code ({ cls := "com/example/boughcheck/boughcheck/MarkupDeclarations", name := "allowed", desc := "(IZ)Z" } : Jvm.MethodName) prog_200_method_8_code (4 : Nat) (Option.some Jvm.ClassFile.FieldType.boolean), Jvm.Cond.code ({ cls := "com/example/boughcheck/boughcheck/MarkupDeclarationsAllowedPinLaw", name := "expected", desc := "(IZ)Z" } : Jvm.MethodName) method_2_code (2 : Nat) (Option.some Jvm.ClassFile.FieldType.boolean)]
set_option maxRecDepth 65536 in
theorem codes_eq : words1.filter isCode = codes1 := rfl
theorem w_codes : ∀ c ∈ words1.filter isCode, c.before args0 about1 = true := by
  rw [codes_eq]
  intro c hc
  simp only [codes1, List.mem_cons, List.not_mem_nil, or_false] at hc
  rcases hc with rfl | rfl | rfl
  · exact w_c0
  · exact w_c1
  · exact w_c2
set_option maxRecDepth 65536 in
theorem w_t1 : words1.all (fun c => isCode c || c.before args0 about1) = true := by decide +kernel
theorem w_tables : (allAtoms (Jvm.Cond.code x code maxLocals ret :: tables_1)).before args0 about1 = true := by
  rw [allAtoms_all]
  show words1.all (fun c => c.before args0 about1) = true
  refine all_split ?_ w_codes
  rw [w_t1]
set_option maxRecDepth 65536 in
theorem w_case : (Jvm.Cond.and given_1 narrow_1).before args0 about1 = true := by decide +kernel
theorem w_applies : (headSpec (Jvm.Cond.code x code maxLocals ret :: tables_1) room_1).applies x e0.platform about1 = true :=
  (Spec.applies_iff w_frames).mpr ⟨w_running, w_runnable, w_alone, w_named, w_hears, w_ripe, w_room, w_tables⟩
theorem atStart : AtStart classFile x code maxLocals ret World_1 tables_1 room_1 Calls_1 rest_1 Pre_1 launch0 p0 e0 about1 theMethod args0 below0 :=
  ⟨lists_1, trivial, launch0.admits_env _ _ _, launch0.least_env, fairChoices_fair.cas, fairChoices_fair.clock, w_frames, w_args, w_heap, w_applies, trivial, trivial, w_case⟩
end start1
theorem witness_1 : WitnessClaimed_1 := ⟨start1.p0, start1.e0, start1.about1, start1.theMethod, start1.args0, start1.below0, start1.atStart⟩
end Jvm.Pilot.@@N@@
