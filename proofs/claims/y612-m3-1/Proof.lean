import JvmDerived
import JvmDerived.Pilot.@@N@@Statement
import JvmDerived.Pilot.@@N@@Code
set_option linter.unusedVariables false
set_option linter.unusedSimpArgs false
@@BLOCK:NumsL.lean.txt@@
namespace Jvm.Pilot.@@N@@
open Jvm Jvm.ClassFile Sem Op Lib Jvm.Free Jvm.Stand Jvm.LawKit Jvm.RoadKit Bundle Jvm.Pilot.@@N@@.Jvm.D
/-! The walk in the continuation's form: 'Goes' says of a place (state, frame) that from it the body ends as Q says. -/
def Goes (p : Program) (e : Env) (below : List Frame) (s : State) (Q : Option Value → Heap → List Loc → Prop) (k n : Nat) (T : State) (g : JFrame) : Prop :=
  ∃ s₂ o, Steps p.tables e below (T.setTop g) s₂ ∧ s₂.status = .running ∧ Ended s₂ below o ∧ ∃ v L, o = .returned v ∧ Q v s₂.heap L ∧ FrameEnd s o s₂ L k n
section OwnKit
variable {p : Program} {l : Launch} {e : Env} {R : Room} {s : State} {m : MethodId} {args : Array Value} {below : List Frame} {meth : Method} {c : Code} {T T' : State} {locs : List Loc} {cells slots : Nat} {Q : Option Value → Heap → List Loc → Prop} {k n : Nat} {g g' : JFrame}
theorem own_go (f : ∀ t, Steps p.tables e below (T'.setTop g') t → Steps p.tables e below (T.setTop g) t) (h : Goes p e below s Q k n T' g') : Goes p e below s Q k n T g := by
  obtain ⟨a, b, h1, r⟩ := h
  exact ⟨a, b, f _ h1, r⟩
theorem own_tr (f : Steps p.tables e below (T.setTop g) (T'.setTop g')) (h : Goes p e below s Q k n T' g') : Goes p e below s Q k n T g := by
  obtain ⟨a, b, h1, r⟩ := h
  exact ⟨a, b, f.trans h1, r⟩
theorem own_ret (X : Stand p l e R s m args below meth c T locs cells slots) (hx : p.tables.exec = Jvm.exec) {pc : Nat} {Ls : Array Slot} {w : Value} {t : FieldType} {i : Instr} {rest : List Value} (hret : meth.sig.returnType = some t) (hlocks : meth.locks = false) (hn : narrow t w = w)
    (hi : (i = .ireturn ∧ (t = .int ∨ t = .boolean ∨ t = .byte ∨ t = .char ∨ t = .short) ∧ ∃ z, w = .int z) ∨ (i = .lreturn ∧ t = .long ∧ ∃ z, w = .long z) ∨ (i = .dreturn ∧ t = .double ∧ ∃ z, w = .double z) ∨ (i = .freturn ∧ t = .float ∧ ∃ z, w = .float z) ∨ (i = .areturn ∧ t.isReference = true ∧ w.isRef = true))
    (hd : decode c.code pc = .ok (i, 1)) (hQ : Q (some w) T.heap locs) (hc : cells ≤ k) (hs : slots ≤ n) : Goes p e below s Q k n T (mkF m pc Ls (w :: rest)) := by
  obtain ⟨fs, hr, hrun, hended, hW, hsame⟩ := X.leave (v := some w) (fun h => by rw [hret] at h; cases h) hlocks
  exact ⟨_, _, retOut X hx hret hn hi hd hr, hrun, hended, _, _, rfl, hQ, ⟨_, rfl⟩, hW, hsame.mono hc hs⟩
theorem own_retI (X : Stand p l e R s m args below meth c T locs cells slots) (hx : p.tables.exec = Jvm.exec) {pc : Nat} {Ls : Array Slot} {z : Int32} {rest : List Value} (hret : meth.sig.returnType = some .int) (hlocks : meth.locks = false)
    (hd : decode c.code pc = .ok (.ireturn, 1)) (hQ : Q (some (.int z)) T.heap locs) (hc : cells ≤ k) (hs : slots ≤ n) : Goes p e below s Q k n T (mkF m pc Ls (.int z :: rest)) :=
  own_ret X hx hret hlocks rfl (Or.inl ⟨rfl, Or.inl rfl, z, rfl⟩) hd hQ hc hs
theorem own_retZ (X : Stand p l e R s m args below meth c T locs cells slots) (hx : p.tables.exec = Jvm.exec) {pc : Nat} {Ls : Array Slot} {z : Int32} {rest : List Value} (hret : meth.sig.returnType = some .boolean) (hlocks : meth.locks = false) (hz : z = 0 ∨ z = 1)
    (hd : decode c.code pc = .ok (.ireturn, 1)) (hQ : Q (some (.int z)) T.heap locs) (hc : cells ≤ k) (hs : slots ≤ n) : Goes p e below s Q k n T (mkF m pc Ls (.int z :: rest)) :=
  own_ret X hx hret hlocks (by rcases hz with rfl | rfl <;> rfl) (Or.inl ⟨rfl, Or.inr (Or.inl rfl), z, rfl⟩) hd hQ hc hs
theorem own_retJ (X : Stand p l e R s m args below meth c T locs cells slots) (hx : p.tables.exec = Jvm.exec) {pc : Nat} {Ls : Array Slot} {z : Int64} {rest : List Value} (hret : meth.sig.returnType = some .long) (hlocks : meth.locks = false)
    (hd : decode c.code pc = .ok (.lreturn, 1)) (hQ : Q (some (.long z)) T.heap locs) (hc : cells ≤ k) (hs : slots ≤ n) : Goes p e below s Q k n T (mkF m pc Ls (.long z :: rest)) :=
  own_ret X hx hret hlocks rfl (Or.inr (Or.inl ⟨rfl, rfl, z, rfl⟩)) hd hQ hc hs
theorem own_retA (X : Stand p l e R s m args below meth c T locs cells slots) (hx : p.tables.exec = Jvm.exec) {pc : Nat} {Ls : Array Slot} {w : Value} {t : FieldType} {rest : List Value} (hret : meth.sig.returnType = some t) (ht : t.isReference = true) (hlocks : meth.locks = false) (hw : w.isRef = true)
    (hd : decode c.code pc = .ok (.areturn, 1)) (hQ : Q (some w) T.heap locs) (hc : cells ≤ k) (hs : slots ≤ n) : Goes p e below s Q k n T (mkF m pc Ls (w :: rest)) :=
  own_ret X hx hret hlocks (by cases t <;> simp [FieldType.isReference] at ht <;> cases w <;> simp [Value.isRef] at hw <;> rfl) (Or.inr (Or.inr (Or.inr (Or.inr ⟨rfl, ht, hw⟩)))) hd hQ hc hs
theorem own_retV (X : Stand p l e R s m args below meth c T locs cells slots) (hx : p.tables.exec = Jvm.exec) {pc : Nat} {Ls : Array Slot} (hret : meth.sig.returnType = none) (hlocks : meth.locks = false)
    (hd : decode c.code pc = .ok (.return_, 1)) (hQ : Q none T.heap locs) (hc : cells ≤ k) (hs : slots ≤ n) : Goes p e below s Q k n T (mkF m pc Ls []) := by
  obtain ⟨fs, hr, hrun, hended, hW, hsame⟩ := X.leave (v := none) (fun _ => rfl) hlocks
  exact ⟨_, _, X.returnOut hx hret hd hr, hrun, hended, _, _, rfl, hQ, ⟨_, rfl⟩, hW, hsame.mono hc hs⟩
/-- what a callee that writes nothing leaves: its value r, the heap as it was -/
def own_pure (r : Option Value) (h0 : Heap) : Option Value → Heap → List Loc → Prop := fun v h L => v = r ∧ L = [] ∧ h = h0
/-- a callee's contract -/
abbrev Pays (l : Launch) (Z : State) (y : MethodName) (bytes : ByteArray) (maxL : Nat) (ret : Option FieldType) (rm : Room) (as' : Array Value) (h0 : Heap) (Q : Option Value → Heap → List Loc → Prop) : Prop :=
  MetFree l y (head1 [Jvm.Cond.code y bytes maxL ret] rm) (fun a U => a = as' ∧ Z.Warmed39 U.vm ∧ U.heap = h0) (fun _ _ _ _ _ => True) (fun _ U o U' => ∃ v L, o = .returned v ∧ Q v U'.heap L ∧ FrameEnd U o U' L rm.cells rm.slots)
theorem own_callS {Z : State} {a0 : Array Value} {h : Heap} {rm : Room} {W : Nat} {own : String} {index : Nat} {y : MethodName} {bytes : ByteArray} {maxL : Nat} {ret : Option FieldType} {argsL rest : List Value} {r : Option Value}
    (X : Stand p l e R s m args below meth c T locs cells slots) (hx : p.tables.exec = Jvm.exec) (hZ : Z.Warmed39 s.vm) (hown : s.vm.findClass own = some m.cls)
    (wl : (Jvm.Cond.methodLink own index y).before a0 Z = true) (wst : (Jvm.Cond.static y).before a0 Z = true) (wi : (Jvm.Cond.initialized y.cls).before a0 Z = true) (wc : (Jvm.Cond.code y bytes maxL ret).before a0 Z = true)
    (hy : y.cls ≠ "java/lang/invoke/MethodHandle" ∧ y.cls ≠ "java/lang/invoke/VarHandle") (eT : T.heap = h)
    (hM : Pays l Z y bytes maxL ret rm argsL.toArray h (own_pure r h)) (hrc : rm.cells = 0) (hrs : rm.slots = 0) (hcl : cells ≤ R.cells) (hsl : slots ≤ R.slots) (hf : rm.frames + 1 ≤ R.frames) (hl : W + (maxL + 11) + rm.locals ≤ R.locals)
    (hg : g.method = m) (hsize : g.locals.size = c.maxLocals) (hlen : ∀ sig, parseMethodDescriptor y.desc = some sig → argsL.length = sig.parameters.length)
    (hstack : g.stack = argsL.reverse ++ rest) (hW : 2 * g.monitorRoom + (rest.map fun v => v.category).sum ≤ W) (hdg : decode c.code g.pc = .ok (.invokestatic index, 3)) :
    ∃ T', Stand p l e R s m args below meth c T' locs cells slots ∧ T'.heap = h ∧ ∀ t, Steps p.tables e below (T'.setTop { g with pc := g.pc + 3, stack := r.toList ++ rest }) t → Steps p.tables e below (T.setTop g) t := by
  obtain ⟨v, vm₁, ⟨T1, L1, k1, n1⟩, hw1, X1, ⟨Lc, hQ, l1, y1, z1⟩, st⟩ := Jvm.LawKit.callS X hx (y := y) hown (mvT hZ wl) (mvT hZ wst) (mvT hZ wi) (mvT hZ wc) hy (backOf (W := W) hM hZ wc wi hf hl) hg hsize hlen hstack hW hdg (fun _ _ => ⟨rfl, eT, by rw [hrc]; exact hcl, by rw [hrs]; exact hsl⟩)
  dsimp only [Pt.U, Pt.locs, Pt.cells, Pt.slots] at X1 l1 y1 z1 st hQ
  obtain ⟨rfl, rfl, hh⟩ := hQ
  subst l1 y1 z1
  rw [List.append_nil, hrc, hrs, Nat.add_zero, Nat.add_zero] at X1
  exact ⟨T1, X1, hh, st⟩
theorem own_callV {Z : State} {a0 : Array Value} {h : Heap} {rm : Room} {W : Nat} {own C : String} {index : Nat} {y z : MethodName} {bytes : ByteArray} {maxL : Nat} {ret : Option FieldType} {argsL rest : List Value} {r : Option Value} {b : Addr}
    (X : Stand p l e R s m args below meth c T locs cells slots) (hx : p.tables.exec = Jvm.exec) (hZ : Z.Warmed39 s.vm) (hown : s.vm.findClass own = some m.cls)
    (wl : (Jvm.Cond.methodLink own index y).before a0 Z = true) (wd : (Jvm.Cond.declares y).before a0 Z = true) (wsel : (Jvm.Cond.selects C y z).before a0 Z = true) (hnf : NotFace s y) (win : (Jvm.Cond.instanceMethod z).before a0 Z = true) (wi : (Jvm.Cond.initialized z.cls).before a0 Z = true) (wc : (Jvm.Cond.code z bytes maxL ret).before a0 Z = true)
    (hy : y.cls ≠ "java/lang/invoke/MethodHandle" ∧ y.cls ≠ "java/lang/invoke/VarHandle") (eT : T.heap = h) (E : Exa Z h b C)
    (hM : Pays l Z z bytes maxL ret rm (.ref b :: argsL).toArray h (own_pure r h)) (hrc : rm.cells = 0) (hrs : rm.slots = 0) (hcl : cells ≤ R.cells) (hsl : slots ≤ R.slots) (hf : rm.frames + 1 ≤ R.frames) (hl : W + (maxL + 11) + rm.locals ≤ R.locals)
    (hg : g.method = m) (hsize : g.locals.size = c.maxLocals) (hlen : ∀ sig, parseMethodDescriptor y.desc = some sig → argsL.length = sig.parameters.length)
    (hstack : g.stack = argsL.reverse ++ .ref b :: rest) (hW : 2 * g.monitorRoom + (rest.map fun v => v.category).sum ≤ W) (hdg : decode c.code g.pc = .ok (.invokevirtual index, 3)) :
    ∃ T', Stand p l e R s m args below meth c T' locs cells slots ∧ T'.heap = h ∧ ∀ t, Steps p.tables e below (T'.setTop { g with pc := g.pc + 3, stack := r.toList ++ rest }) t → Steps p.tables e below (T.setTop g) t := by
  obtain ⟨cq, kq, qa, qb, qc⟩ := isOf hZ eT E
  obtain ⟨v, vm₁, ⟨T1, L1, k1, n1⟩, hw1, X1, ⟨Lc, hQ, l1, y1, z1⟩, st⟩ := X.virtualBack hx (y := y) (z := z) hown (mvT hZ wl) (mvT hZ wd) hnf (mvT hZ wsel) (mvT hZ win) hy (backOf (W := W) hM hZ wc wi hf hl) qa qc hg hsize (Steps.refl _) hlen hstack hW hdg (fun _ _ => ⟨rfl, eT, by rw [hrc]; exact hcl, by rw [hrs]; exact hsl⟩)
  dsimp only [Pt.U, Pt.locs, Pt.cells, Pt.slots] at X1 l1 y1 z1 st hQ
  obtain ⟨rfl, rfl, hh⟩ := hQ
  subst l1 y1 z1
  rw [List.append_nil, hrc, hrs, Nat.add_zero, Nat.add_zero] at X1
  exact ⟨T1, X1, hh, fun t k => st.trans k⟩
/-- what a law that makes objects leaves: true, and nothing old written -/
def own_one (n0 : Nat) : Option Value → Heap → List Loc → Prop := fun v h L => v = some (.int 1) ∧ Fr n0 L
theorem own_callI {Z : State} {a0 : Array Value} {h : Heap} {rm : Room} {W : Nat} {own : String} {index : Nat} {y : MethodName} {bytes : ByteArray} {maxL : Nat} {argsL rest : List Value} {a : Addr}
    (X : Stand p l e R s m args below meth c T locs cells slots) (hx : p.tables.exec = Jvm.exec) (hZ : Z.Warmed39 s.vm) (hown : s.vm.findClass own = some m.cls) (hy1 : y.name = "<init>")
    (wl : (Jvm.Cond.methodLink own index y).before a0 Z = true) (win : (Jvm.Cond.instanceMethod y).before a0 Z = true) (wi : (Jvm.Cond.initialized y.cls).before a0 Z = true) (wc : (Jvm.Cond.code y bytes maxL none).before a0 Z = true)
    (hy : y.cls ≠ "java/lang/invoke/MethodHandle" ∧ y.cls ≠ "java/lang/invoke/VarHandle") (eT : T.heap = h)
    (hM : Pays l Z y bytes maxL none rm (.ref a :: argsL).toArray h (own_pure none h)) (hrc : rm.cells = 0) (hrs : rm.slots = 0) (hcl : cells ≤ R.cells) (hsl : slots ≤ R.slots) (hf : rm.frames + 1 ≤ R.frames) (hl : W + (maxL + 11) + rm.locals ≤ R.locals)
    (hg : g.method = m) (hsize : g.locals.size = c.maxLocals) (hlen : ∀ sig, parseMethodDescriptor y.desc = some sig → argsL.length = sig.parameters.length)
    (hstack : g.stack = argsL.reverse ++ .ref a :: rest) (hW : 2 * g.monitorRoom + (rest.map fun v => v.category).sum ≤ W) (hdg : decode c.code g.pc = .ok (.invokespecial index, 3)) :
    ∃ T', Stand p l e R s m args below meth c T' locs cells slots ∧ T'.heap = h ∧ ∀ t, Steps p.tables e below (T'.setTop { g with pc := g.pc + 3, stack := rest }) t → Steps p.tables e below (T.setTop g) t := by
  obtain ⟨v, vm₁, ⟨T1, L1, k1, n1⟩, hw1, X1, ⟨Lc, hQ, l1, y1, z1⟩, st⟩ := X.specialBack hx (y := y) hy1 hown (mvT hZ wl) (mvT hZ win) (mvT hZ wc) hy (backOf (W := W) hM hZ wc wi hf hl) hg hsize (Steps.refl _) hlen hstack hW hdg (fun _ _ => ⟨rfl, eT, by rw [hrc]; exact hcl, by rw [hrs]; exact hsl⟩)
  dsimp only [Pt.U, Pt.locs, Pt.cells, Pt.slots] at X1 l1 y1 z1 st hQ
  obtain ⟨rfl, rfl, hh⟩ := hQ
  subst l1 y1 z1
  rw [List.append_nil, hrc, hrs, Nat.add_zero, Nat.add_zero] at X1
  exact ⟨T1, X1, hh, fun t k => st.trans k⟩
theorem own_eqi {args : Array Value} {first s : State} {o : Option Outcome} {idx : List Nat} {t : Term} {k : Int32} (h : (Jvm.Cond.eq t (Term.int k)).value args first o s idx = some true) : t.eval args first o idx s = some (.int k) := by
  obtain ⟨x, y, e1, e2, k1, k2⟩ := cmp_v (Or.inl h)
  rw [Term.int_eval] at e2
  cases e2
  obtain ⟨z, rfl⟩ := k2
  have h2 : (Jvm.Cond.eq t (Term.int k)).value args first o s idx = some (decide (z = k)) := by simp [Cond.value, e1, Term.int_eval]
  rw [gotT h2 h] at e1
  exact e1
theorem own_ord {args : Array Value} {s : State} {t : Term} {x : Addr} {C n : String} {k : Int32} (ev : t.eval args s none [] s = some (.ref x)) (h : (Jvm.Cond.eq (Term.field t C n "I") (Term.int k)).value args s none s [] = some true) : Fld s s.heap x C n "I" (.int k) :=
  Fld.start ((fld_at ev).symm.trans (own_eqi h))
theorem own_sta_keep {Z : State} {h h' : Heap} {C n d D : String} {v : Value} {a : Addr} (F : Sta Z h C n d v) (K : Keep h h' [a]) (E : Exa Z h a D) : Sta Z h' C n d v := by
  obtain ⟨cf, i, k, f, st, cell, h1, h2, h3, h4, h5, h6, h7⟩ := F
  refine ⟨cf, i, k, f, st, cell, h1, h2, h3, h4, K.2.1 st cell h5 (fun q => ?_), h6, h7⟩
  obtain ⟨cell', k', g1, -, -, g4, -⟩ := E
  cases List.mem_singleton.mp q
  rw [h5] at g1
  cases g1
  rw [h6] at g4
  cases g4
end OwnKit
theorem ef_st (m : MethodId) (x0 : Int64) : entryFrame m #[(.long x0)] 2 = mkF m 0 #[.val (.long x0), .second] [] := by first | (simp [entryFrame, mkF, argsToLocals, Value.category]; done) | rfl
theorem pn_0 : plainName "com/example/hosts_to_leader/hoststoleader/service/LargeGroup" = true := by first | (simp [plainName, overriddenIn]; done) | decide +kernel
theorem d_st_0 : decode prog_29_method_9_code 0 = .ok (.ldc2_w 87, 3) := by decide +kernel
theorem d_st_3 : decode prog_29_method_9_code 3 = .ok (.lload_n 0, 1) := by decide +kernel
theorem d_st_4 : decode prog_29_method_9_code 4 = .ok (.lmul, 1) := by decide +kernel
theorem d_st_5 : decode prog_29_method_9_code 5 = .ok (.lconst 1, 1) := by decide +kernel
theorem d_st_6 : decode prog_29_method_9_code 6 = .ok (.ladd, 1) := by decide +kernel
theorem d_st_7 : decode prog_29_method_9_code 7 = .ok (.ldc2_w 89, 3) := by decide +kernel
theorem d_st_10 : decode prog_29_method_9_code 10 = .ok (.ldiv, 1) := by decide +kernel
theorem d_st_11 : decode prog_29_method_9_code 11 = .ok (.lreturn, 1) := by decide +kernel
theorem ef_law (m : MethodId) (x0 : Int64) : entryFrame m #[(.long x0)] maxLocals = mkF m 0 #[.val (.long x0), .second, .unset, .unset, .unset, .unset, .unset, .unset, .unset, .unset, .unset, .unset, .unset] [] := by first | (simp [entryFrame, mkF, argsToLocals, Value.category, maxLocals]; done) | rfl
theorem pn_1 : plainName "com/example/hosts_to_leader/hoststoleader/service/LargeGroupStepsPinLaw" = true := by first | (simp [plainName, overriddenIn]; done) | decide +kernel
theorem pd_0 : parseMethodDescriptor "(J)J" = some ⟨[.long], some .long⟩ := by decide +kernel
def own_steps (b : Int64) : Int64 := ((3 : Int64) * b + (1 : Int64)) / (2 : Int64)
set_option maxRecDepth 65536 in
set_option maxHeartbeats 40000000 in
theorem rm_st (l : Launch) (Z : State) (a0 : Array Value) (hw : ∀ d ∈ tables_1, d.before a0 Z = true) (b : Int64) (h0 : Heap)  :
    Pays l Z (⟨"com/example/hosts_to_leader/hoststoleader/service/LargeGroup", "steps", "(J)J"⟩ : MethodName) prog_29_method_9_code 2 (some .long) ({ frames := 0, cells := 0, slots := 0, locals := 0 } : Room) #[(.long b)] h0 (own_pure (some (.long (own_steps b))) h0) := by
  refine MetFree.of_bodySF (plainFor_of_name pn_0) hisR ?_
  intro p e s m args below meth c s₁ Bd hml0 hP hK
  obtain ⟨rfl, hZ, hh⟩ := hP
  have hx := Bd.exec
  have hby := Bd.bytes
  have hml : c.maxLocals = 2 := hml0
  have hown : s.vm.findClass "com/example/hosts_to_leader/hoststoleader/service/LargeGroup" = some m.cls := findClass_of_methodNamed Bd.named
  have hnm := (name_of_methodNamed Bd.named Bd.method).1
  have hlk : meth.locks = false := BodyLoose.notSynchronized Bd
  have X0 : Stand p l e ({ frames := 0, cells := 0, slots := 0, locals := 0 } : Room) s m #[(.long b)] below meth c s₁ [] 0 0 := Stand.of_body Bd
  have e0 : s₁.heap = h0 := by rw [← hh, Bd.state]; rfl
  show Goes p e below s (own_pure (some (.long (own_steps b))) h0) ({ frames := 0, cells := 0, slots := 0, locals := 0 } : Room).cells ({ frames := 0, cells := 0, slots := 0, locals := 0 } : Room).slots s₁ (entryFrame m #[(.long b)] 2)
  rw [ef_st m b]
  refine own_go (T' := s₁) (g' := (mkF m 3 #[.val (.long b), .second] [(.long (3 : Int64))])) (fun t_ K => X0.ldc2Long hx hown (mvT hZ (hw _ (List.mem_of_getElem? (i := 6) rfl))) (g := (mkF m 0 #[.val (.long b), .second] [])) rfl (hb hby d_st_0) _ K) ?_
  refine own_go (T' := s₁) (g' := (mkF m 4 #[.val (.long b), .second] [(.long b), (.long (3 : Int64))])) (fun t_ K => XS.lloadN X0.here hx rfl (hb hby d_st_3) rfl K) ?_
  refine own_go (T' := s₁) (g' := (mkF m 5 #[.val (.long b), .second] [(.long ((3 : Int64) * b))])) (fun t_ K => XT.lmul X0.here hx rfl (hb hby d_st_4) rfl K) ?_
  refine own_go (T' := s₁) (g' := (mkF m 6 #[.val (.long b), .second] [(.long (1 : Int64)), (.long ((3 : Int64) * b))])) (fun t_ K => XS.lconst X0.here hx rfl (hb hby d_st_5) K) ?_
  refine own_go (T' := s₁) (g' := (mkF m 7 #[.val (.long b), .second] [(.long (((3 : Int64) * b) + (1 : Int64)))])) (fun t_ K => XT.ladd X0.here hx rfl (hb hby d_st_6) rfl K) ?_
  refine own_go (T' := s₁) (g' := (mkF m 10 #[.val (.long b), .second] [(.long (2 : Int64)), (.long (((3 : Int64) * b) + (1 : Int64)))])) (fun t_ K => X0.ldc2Long hx hown (mvT hZ (hw _ (List.mem_of_getElem? (i := 7) rfl))) (g := (mkF m 7 #[.val (.long b), .second] [(.long (((3 : Int64) * b) + (1 : Int64)))])) rfl (hb hby d_st_7) _ K) ?_
  refine own_go (T' := s₁) (g' := (mkF m 11 #[.val (.long b), .second] [(.long ((((3 : Int64) * b) + (1 : Int64)) / (2 : Int64)))])) (fun t_ K => XT.ldiv X0.here hx rfl (hb hby d_st_10) rfl (by decide) K) ?_
  exact own_retJ X0 hx Bd.returns hlk (hb hby d_st_11) ⟨rfl, rfl, e0⟩ (by decide) (by decide)
def own_b (x : Int64) : Int64 := (x &&& (4611686018427387903 : Int64)) - (x &&& (4611686018427387903 : Int64)) / (2305843009213693953 : Int64) * (2305843009213693953 : Int64)
theorem own_range (x : Int64) : 0 ≤ (own_b x).toInt ∧ (own_b x).toInt ≤ 2305843009213693952 := by
  have e1 : (x &&& (4611686018427387903 : Int64)).toInt = x.toInt % 2 ^ 62 := Jvm.Kit.i64_mask x _ (k := 62) (by decide) (by decide)
  have e2 : (own_b x).toInt = (x &&& (4611686018427387903 : Int64)).toInt % (2305843009213693953 : Int64).toInt := Jvm.Kit.i64_rem_nonneg (by omega)
  have e3 : (2305843009213693953 : Int64).toInt = 2305843009213693953 := by decide
  rw [e3] at e2
  omega
theorem own_sval (b : Int64) (h0 : 0 ≤ b.toInt) (h1 : b.toInt ≤ 2305843009213693952) : (own_steps b).toInt = (3 * b.toInt + 1) / 2 := by
  have c3 : (3 : Int64).toInt = 3 := by decide
  have c1 : (1 : Int64).toInt = 1 := by decide
  have c2 : (2 : Int64).toInt = 2 := by decide
  have m1 : ((3 : Int64) * b).toInt = 3 * b.toInt := by rw [Jvm.Kit.i64_mul (by rw [c3]; omega) (by rw [c3]; omega), c3]
  have a1 : ((3 : Int64) * b + (1 : Int64)).toInt = 3 * b.toInt + 1 := by rw [Jvm.Kit.i64_add (by rw [m1, c1]; omega) (by rw [m1, c1]; omega), m1, c1]
  have d1 : (((3 : Int64) * b + (1 : Int64)) / (2 : Int64)).toInt = (3 * b.toInt + 1).tdiv 2 := by rw [Jvm.Kit.i64_div (by rw [a1]; omega), a1, c2]
  rw [own_steps, d1, Int.tdiv_eq_ediv_of_nonneg (by omega)]
theorem own_odd (b : Int64) : (b &&& (1 : Int64)).toInt = b.toInt % 2 := Jvm.Kit.i64_mask b 1 (k := 1) (by decide) (by decide)
theorem own_k1 (x : Int64) : (2 : Int64) * own_steps (own_b x) - (3 : Int64) * own_b x = own_b x &&& (1 : Int64) := by
  obtain ⟨h0, h1⟩ := own_range x
  generalize own_b x = b at *
  have hs := own_sval b h0 h1
  have ho := own_odd b
  have c3 : (3 : Int64).toInt = 3 := by decide
  have c2 : (2 : Int64).toInt = 2 := by decide
  have m1 : ((3 : Int64) * b).toInt = 3 * b.toInt := by rw [Jvm.Kit.i64_mul (by rw [c3]; omega) (by rw [c3]; omega), c3]
  have m2 : ((2 : Int64) * own_steps b).toInt = 2 * (own_steps b).toInt := by rw [Jvm.Kit.i64_mul (by rw [c2]; omega) (by rw [c2]; omega), c2]
  refine Int64.toInt_inj.mp ?_
  rw [Jvm.Kit.i64_sub (by rw [m1, m2]; omega) (by rw [m1, m2]; omega), m1, m2, ho]
  omega
theorem own_k2 (x : Int64) : own_steps (own_b x) = own_b x + (own_b x >>> ((1 : Int32).toInt64 &&& 63)) + (own_b x &&& (1 : Int64)) := by
  obtain ⟨h0, h1⟩ := own_range x
  generalize own_b x = b at *
  have hs := own_sval b h0 h1
  have ho := own_odd b
  have hh : (b >>> ((1 : Int32).toInt64 &&& 63)).toInt = b.toInt / 2 ^ 1 := Jvm.Kit.i64_shr b _ (k := 1) (by decide)
  have a1 : (b + (b >>> ((1 : Int32).toInt64 &&& 63))).toInt = b.toInt + b.toInt / 2 := by rw [Jvm.Kit.i64_add (by rw [hh]; omega) (by rw [hh]; omega), hh]; rfl
  refine Int64.toInt_inj.mp ?_
  rw [Jvm.Kit.i64_add (by rw [a1, ho]; omega) (by rw [a1, ho]; omega), a1, ho, hs]
  omega
set_option maxRecDepth 65536 in
set_option maxHeartbeats 40000000 in
theorem rm_law (l : Launch) (Z : State) (a0 : Array Value) (hw : ∀ d ∈ tables_1, d.before a0 Z = true) (ws : List Jvm.Cond) (xx : Int64) (h0 : Heap)  :
    MetFree l x (head1 (Jvm.Cond.code x code maxLocals ret :: ws) room_1) (fun a U => a = #[(.long xx)] ∧ Z.Warmed39 U.vm ∧ U.heap = h0) (fun _ _ _ _ _ => True) (fun _ U o U' => ∃ v L, o = .returned v ∧ (own_pure (some (.int 1)) h0) v U'.heap L ∧ FrameEnd U o U' L 0 0) := by
  refine MetFree.of_bodySF (plainFor_of_name pn_1) hisR ?_
  intro p e s m args below meth c s₁ Bd hml0 hP hK
  obtain ⟨rfl, hZ, hh⟩ := hP
  have hx := Bd.exec
  have hby := Bd.bytes
  have hml : c.maxLocals = 13 := hml0
  have hown : s.vm.findClass "com/example/hosts_to_leader/hoststoleader/service/LargeGroupStepsPinLaw" = some m.cls := findClass_of_methodNamed Bd.named
  have hnm := (name_of_methodNamed Bd.named Bd.method).1
  have hlk : meth.locks = false := BodyLoose.notSynchronized Bd
  have X0 : Stand p l e room_1 s m #[(.long xx)] below meth c s₁ [] 0 0 := Stand.of_body Bd
  have e0 : s₁.heap = h0 := by rw [← hh, Bd.state]; rfl
  show Goes p e below s (own_pure (some (.int 1)) h0) 0 0 s₁ (entryFrame m #[(.long xx)] maxLocals)
  rw [ef_law m xx]
  refine own_go (T' := s₁) (g' := (mkF m 1 #[.val (.long xx), .second, .unset, .unset, .unset, .unset, .unset, .unset, .unset, .unset, .unset, .unset, .unset] [(.long xx)])) (fun t_ K => XS.lloadN X0.here hx rfl (hb hby at_0) rfl K) ?_
  refine own_go (T' := s₁) (g' := (mkF m 4 #[.val (.long xx), .second, .unset, .unset, .unset, .unset, .unset, .unset, .unset, .unset, .unset, .unset, .unset] [(.long (4611686018427387903 : Int64)), (.long xx)])) (fun t_ K => X0.ldc2Long hx hown (mvT hZ (hw _ (List.mem_of_getElem? (i := 0) rfl))) (g := (mkF m 1 #[.val (.long xx), .second, .unset, .unset, .unset, .unset, .unset, .unset, .unset, .unset, .unset, .unset, .unset] [(.long xx)])) rfl (hb hby at_1) _ K) ?_
  refine own_go (T' := s₁) (g' := (mkF m 5 #[.val (.long xx), .second, .unset, .unset, .unset, .unset, .unset, .unset, .unset, .unset, .unset, .unset, .unset] [(.long (xx &&& (4611686018427387903 : Int64)))])) (fun t_ K => XT.land X0.here hx rfl (hb hby at_4) rfl K) ?_
  refine own_go (T' := s₁) (g' := (mkF m 8 #[.val (.long xx), .second, .unset, .unset, .unset, .unset, .unset, .unset, .unset, .unset, .unset, .unset, .unset] [(.long (2305843009213693953 : Int64)), (.long (xx &&& (4611686018427387903 : Int64)))])) (fun t_ K => X0.ldc2Long hx hown (mvT hZ (hw _ (List.mem_of_getElem? (i := 1) rfl))) (g := (mkF m 5 #[.val (.long xx), .second, .unset, .unset, .unset, .unset, .unset, .unset, .unset, .unset, .unset, .unset, .unset] [(.long (xx &&& (4611686018427387903 : Int64)))])) rfl (hb hby at_5) _ K) ?_
  refine own_go (T' := s₁) (g' := (mkF m 9 #[.val (.long xx), .second, .unset, .unset, .unset, .unset, .unset, .unset, .unset, .unset, .unset, .unset, .unset] [(.long ((xx &&& (4611686018427387903 : Int64)) - (xx &&& (4611686018427387903 : Int64)) / (2305843009213693953 : Int64) * (2305843009213693953 : Int64)))])) (fun t_ K => XT.lrem X0.here hx rfl (hb hby at_8) rfl (by decide) K) ?_
  show Goes p e below s (own_pure (some (.int 1)) h0) 0 0 s₁ (mkF m 9 #[.val (.long xx), .second, .unset, .unset, .unset, .unset, .unset, .unset, .unset, .unset, .unset, .unset, .unset] [(.long (own_b xx))])
  refine own_go (T' := s₁) (g' := (mkF m 10 #[.val (.long xx), .second, .val (.long (own_b xx)), .second, .unset, .unset, .unset, .unset, .unset, .unset, .unset, .unset, .unset] [])) (fun t_ K => XS.lstoreN X0.here hx rfl (hb hby at_9) rfl (l' := #[.val (.long xx), .second, .val (.long (own_b xx)), .second, .unset, .unset, .unset, .unset, .unset, .unset, .unset, .unset, .unset]) rfl K) ?_
  refine own_go (T' := s₁) (g' := (mkF m 11 #[.val (.long xx), .second, .val (.long (own_b xx)), .second, .unset, .unset, .unset, .unset, .unset, .unset, .unset, .unset, .unset] [(.long (own_b xx))])) (fun t_ K => XS.lloadN X0.here hx rfl (hb hby at_10) rfl K) ?_
  obtain ⟨T1, X1, e1, st1⟩ := own_callS (W := 0) (rm := { frames := 0, cells := 0, slots := 0, locals := 0 }) X0 hx hZ hown (hw _ (List.mem_of_getElem? (i := 2) rfl)) (hw _ (List.mem_of_getElem? (i := 3) rfl)) (hw _ (List.mem_of_getElem? (i := 4) rfl)) (hw _ (List.mem_of_getElem? (i := 5) rfl)) (by decide) e0 (argsL := [(.long (own_b xx))]) (rest := []) (r := some (.long (own_steps (own_b xx)))) (rm_st l Z a0 hw (own_b xx) h0) rfl rfl (by decide) (by decide) (by decide) (by decide) (g := (mkF m 11 #[.val (.long xx), .second, .val (.long (own_b xx)), .second, .unset, .unset, .unset, .unset, .unset, .unset, .unset, .unset, .unset] [(.long (own_b xx))])) rfl (by rw [hml]; rfl) (lenOf pd_0 rfl) rfl (by show 2 * 0 + _ ≤ _; exact Nat.le_of_eq rfl) (hb hby at_11)
  refine own_go (T' := T1) (g' := (mkF m 14 #[.val (.long xx), .second, .val (.long (own_b xx)), .second, .unset, .unset, .unset, .unset, .unset, .unset, .unset, .unset, .unset] [(.long (own_steps (own_b xx)))])) (fun t_ K => st1 _ K) ?_
  refine own_go (T' := T1) (g' := (mkF m 16 #[.val (.long xx), .second, .val (.long (own_b xx)), .second, .val (.long (own_steps (own_b xx))), .second, .unset, .unset, .unset, .unset, .unset, .unset, .unset] [])) (fun t_ K => XS.lstore X1.here hx rfl (hb hby at_14) rfl (l' := #[.val (.long xx), .second, .val (.long (own_b xx)), .second, .val (.long (own_steps (own_b xx))), .second, .unset, .unset, .unset, .unset, .unset, .unset, .unset]) rfl K) ?_
  refine own_go (T' := T1) (g' := (mkF m 17 #[.val (.long xx), .second, .val (.long (own_b xx)), .second, .val (.long (own_steps (own_b xx))), .second, .unset, .unset, .unset, .unset, .unset, .unset, .unset] [(.long (own_b xx))])) (fun t_ K => XS.lloadN X1.here hx rfl (hb hby at_16) rfl K) ?_
  refine own_go (T' := T1) (g' := (mkF m 18 #[.val (.long xx), .second, .val (.long (own_b xx)), .second, .val (.long (own_steps (own_b xx))), .second, .unset, .unset, .unset, .unset, .unset, .unset, .unset] [(.int (1 : Int32)), (.long (own_b xx))])) (fun t_ K => XS.iconst X1.here hx rfl (hb hby at_17) K) ?_
  refine own_go (T' := T1) (g' := (mkF m 19 #[.val (.long xx), .second, .val (.long (own_b xx)), .second, .val (.long (own_steps (own_b xx))), .second, .unset, .unset, .unset, .unset, .unset, .unset, .unset] [(.long ((own_b xx) >>> ((1 : Int32).toInt64 &&& 63)))])) (fun t_ K => XT.lshr X1.here hx rfl (hb hby at_18) rfl K) ?_
  refine own_go (T' := T1) (g' := (mkF m 21 #[.val (.long xx), .second, .val (.long (own_b xx)), .second, .val (.long (own_steps (own_b xx))), .second, .val (.long ((own_b xx) >>> ((1 : Int32).toInt64 &&& 63))), .second, .unset, .unset, .unset, .unset, .unset] [])) (fun t_ K => XS.lstore X1.here hx rfl (hb hby at_19) rfl (l' := #[.val (.long xx), .second, .val (.long (own_b xx)), .second, .val (.long (own_steps (own_b xx))), .second, .val (.long ((own_b xx) >>> ((1 : Int32).toInt64 &&& 63))), .second, .unset, .unset, .unset, .unset, .unset]) rfl K) ?_
  refine own_go (T' := T1) (g' := (mkF m 22 #[.val (.long xx), .second, .val (.long (own_b xx)), .second, .val (.long (own_steps (own_b xx))), .second, .val (.long ((own_b xx) >>> ((1 : Int32).toInt64 &&& 63))), .second, .unset, .unset, .unset, .unset, .unset] [(.long (own_b xx))])) (fun t_ K => XS.lloadN X1.here hx rfl (hb hby at_21) rfl K) ?_
  refine own_go (T' := T1) (g' := (mkF m 23 #[.val (.long xx), .second, .val (.long (own_b xx)), .second, .val (.long (own_steps (own_b xx))), .second, .val (.long ((own_b xx) >>> ((1 : Int32).toInt64 &&& 63))), .second, .unset, .unset, .unset, .unset, .unset] [(.long (1 : Int64)), (.long (own_b xx))])) (fun t_ K => XS.lconst X1.here hx rfl (hb hby at_22) K) ?_
  refine own_go (T' := T1) (g' := (mkF m 24 #[.val (.long xx), .second, .val (.long (own_b xx)), .second, .val (.long (own_steps (own_b xx))), .second, .val (.long ((own_b xx) >>> ((1 : Int32).toInt64 &&& 63))), .second, .unset, .unset, .unset, .unset, .unset] [(.long ((own_b xx) &&& (1 : Int64)))])) (fun t_ K => XT.land X1.here hx rfl (hb hby at_23) rfl K) ?_
  refine own_go (T' := T1) (g' := (mkF m 26 #[.val (.long xx), .second, .val (.long (own_b xx)), .second, .val (.long (own_steps (own_b xx))), .second, .val (.long ((own_b xx) >>> ((1 : Int32).toInt64 &&& 63))), .second, .val (.long ((own_b xx) &&& (1 : Int64))), .second, .unset, .unset, .unset] [])) (fun t_ K => XS.lstore X1.here hx rfl (hb hby at_24) rfl (l' := #[.val (.long xx), .second, .val (.long (own_b xx)), .second, .val (.long (own_steps (own_b xx))), .second, .val (.long ((own_b xx) >>> ((1 : Int32).toInt64 &&& 63))), .second, .val (.long ((own_b xx) &&& (1 : Int64))), .second, .unset, .unset, .unset]) rfl K) ?_
  refine own_go (T' := T1) (g' := (mkF m 27 #[.val (.long xx), .second, .val (.long (own_b xx)), .second, .val (.long (own_steps (own_b xx))), .second, .val (.long ((own_b xx) >>> ((1 : Int32).toInt64 &&& 63))), .second, .val (.long ((own_b xx) &&& (1 : Int64))), .second, .unset, .unset, .unset] [(.long (own_b xx))])) (fun t_ K => XS.lloadN X1.here hx rfl (hb hby at_26) rfl K) ?_
  refine own_go (T' := T1) (g' := (mkF m 29 #[.val (.long xx), .second, .val (.long (own_b xx)), .second, .val (.long (own_steps (own_b xx))), .second, .val (.long ((own_b xx) >>> ((1 : Int32).toInt64 &&& 63))), .second, .val (.long ((own_b xx) &&& (1 : Int64))), .second, .unset, .unset, .unset] [(.long ((own_b xx) >>> ((1 : Int32).toInt64 &&& 63))), (.long (own_b xx))])) (fun t_ K => XS.lload X1.here hx rfl (hb hby at_27) rfl K) ?_
  refine own_go (T' := T1) (g' := (mkF m 30 #[.val (.long xx), .second, .val (.long (own_b xx)), .second, .val (.long (own_steps (own_b xx))), .second, .val (.long ((own_b xx) >>> ((1 : Int32).toInt64 &&& 63))), .second, .val (.long ((own_b xx) &&& (1 : Int64))), .second, .unset, .unset, .unset] [(.long ((own_b xx) + ((own_b xx) >>> ((1 : Int32).toInt64 &&& 63))))])) (fun t_ K => XT.ladd X1.here hx rfl (hb hby at_29) rfl K) ?_
  refine own_go (T' := T1) (g' := (mkF m 32 #[.val (.long xx), .second, .val (.long (own_b xx)), .second, .val (.long (own_steps (own_b xx))), .second, .val (.long ((own_b xx) >>> ((1 : Int32).toInt64 &&& 63))), .second, .val (.long ((own_b xx) &&& (1 : Int64))), .second, .unset, .unset, .unset] [(.long ((own_b xx) &&& (1 : Int64))), (.long ((own_b xx) + ((own_b xx) >>> ((1 : Int32).toInt64 &&& 63))))])) (fun t_ K => XS.lload X1.here hx rfl (hb hby at_30) rfl K) ?_
  refine own_go (T' := T1) (g' := (mkF m 33 #[.val (.long xx), .second, .val (.long (own_b xx)), .second, .val (.long (own_steps (own_b xx))), .second, .val (.long ((own_b xx) >>> ((1 : Int32).toInt64 &&& 63))), .second, .val (.long ((own_b xx) &&& (1 : Int64))), .second, .unset, .unset, .unset] [(.long (((own_b xx) + ((own_b xx) >>> ((1 : Int32).toInt64 &&& 63))) + ((own_b xx) &&& (1 : Int64))))])) (fun t_ K => XT.ladd X1.here hx rfl (hb hby at_32) rfl K) ?_
  refine own_go (T' := T1) (g' := (mkF m 35 #[.val (.long xx), .second, .val (.long (own_b xx)), .second, .val (.long (own_steps (own_b xx))), .second, .val (.long ((own_b xx) >>> ((1 : Int32).toInt64 &&& 63))), .second, .val (.long ((own_b xx) &&& (1 : Int64))), .second, .val (.long (((own_b xx) + ((own_b xx) >>> ((1 : Int32).toInt64 &&& 63))) + ((own_b xx) &&& (1 : Int64)))), .second, .unset] [])) (fun t_ K => XS.lstore X1.here hx rfl (hb hby at_33) rfl (l' := #[.val (.long xx), .second, .val (.long (own_b xx)), .second, .val (.long (own_steps (own_b xx))), .second, .val (.long ((own_b xx) >>> ((1 : Int32).toInt64 &&& 63))), .second, .val (.long ((own_b xx) &&& (1 : Int64))), .second, .val (.long (((own_b xx) + ((own_b xx) >>> ((1 : Int32).toInt64 &&& 63))) + ((own_b xx) &&& (1 : Int64)))), .second, .unset]) rfl K) ?_
  refine own_go (T' := T1) (g' := (mkF m 38 #[.val (.long xx), .second, .val (.long (own_b xx)), .second, .val (.long (own_steps (own_b xx))), .second, .val (.long ((own_b xx) >>> ((1 : Int32).toInt64 &&& 63))), .second, .val (.long ((own_b xx) &&& (1 : Int64))), .second, .val (.long (((own_b xx) + ((own_b xx) >>> ((1 : Int32).toInt64 &&& 63))) + ((own_b xx) &&& (1 : Int64)))), .second, .unset] [(.long (2 : Int64))])) (fun t_ K => X1.ldc2Long hx hown (mvT hZ (hw _ (List.mem_of_getElem? (i := 8) rfl))) (g := (mkF m 35 #[.val (.long xx), .second, .val (.long (own_b xx)), .second, .val (.long (own_steps (own_b xx))), .second, .val (.long ((own_b xx) >>> ((1 : Int32).toInt64 &&& 63))), .second, .val (.long ((own_b xx) &&& (1 : Int64))), .second, .val (.long (((own_b xx) + ((own_b xx) >>> ((1 : Int32).toInt64 &&& 63))) + ((own_b xx) &&& (1 : Int64)))), .second, .unset] [])) rfl (hb hby at_35) _ K) ?_
  refine own_go (T' := T1) (g' := (mkF m 40 #[.val (.long xx), .second, .val (.long (own_b xx)), .second, .val (.long (own_steps (own_b xx))), .second, .val (.long ((own_b xx) >>> ((1 : Int32).toInt64 &&& 63))), .second, .val (.long ((own_b xx) &&& (1 : Int64))), .second, .val (.long (((own_b xx) + ((own_b xx) >>> ((1 : Int32).toInt64 &&& 63))) + ((own_b xx) &&& (1 : Int64)))), .second, .unset] [(.long (own_steps (own_b xx))), (.long (2 : Int64))])) (fun t_ K => XS.lload X1.here hx rfl (hb hby at_38) rfl K) ?_
  refine own_go (T' := T1) (g' := (mkF m 41 #[.val (.long xx), .second, .val (.long (own_b xx)), .second, .val (.long (own_steps (own_b xx))), .second, .val (.long ((own_b xx) >>> ((1 : Int32).toInt64 &&& 63))), .second, .val (.long ((own_b xx) &&& (1 : Int64))), .second, .val (.long (((own_b xx) + ((own_b xx) >>> ((1 : Int32).toInt64 &&& 63))) + ((own_b xx) &&& (1 : Int64)))), .second, .unset] [(.long ((2 : Int64) * (own_steps (own_b xx))))])) (fun t_ K => XT.lmul X1.here hx rfl (hb hby at_40) rfl K) ?_
  refine own_go (T' := T1) (g' := (mkF m 44 #[.val (.long xx), .second, .val (.long (own_b xx)), .second, .val (.long (own_steps (own_b xx))), .second, .val (.long ((own_b xx) >>> ((1 : Int32).toInt64 &&& 63))), .second, .val (.long ((own_b xx) &&& (1 : Int64))), .second, .val (.long (((own_b xx) + ((own_b xx) >>> ((1 : Int32).toInt64 &&& 63))) + ((own_b xx) &&& (1 : Int64)))), .second, .unset] [(.long (3 : Int64)), (.long ((2 : Int64) * (own_steps (own_b xx))))])) (fun t_ K => X1.ldc2Long hx hown (mvT hZ (hw _ (List.mem_of_getElem? (i := 9) rfl))) (g := (mkF m 41 #[.val (.long xx), .second, .val (.long (own_b xx)), .second, .val (.long (own_steps (own_b xx))), .second, .val (.long ((own_b xx) >>> ((1 : Int32).toInt64 &&& 63))), .second, .val (.long ((own_b xx) &&& (1 : Int64))), .second, .val (.long (((own_b xx) + ((own_b xx) >>> ((1 : Int32).toInt64 &&& 63))) + ((own_b xx) &&& (1 : Int64)))), .second, .unset] [(.long ((2 : Int64) * (own_steps (own_b xx))))])) rfl (hb hby at_41) _ K) ?_
  refine own_go (T' := T1) (g' := (mkF m 45 #[.val (.long xx), .second, .val (.long (own_b xx)), .second, .val (.long (own_steps (own_b xx))), .second, .val (.long ((own_b xx) >>> ((1 : Int32).toInt64 &&& 63))), .second, .val (.long ((own_b xx) &&& (1 : Int64))), .second, .val (.long (((own_b xx) + ((own_b xx) >>> ((1 : Int32).toInt64 &&& 63))) + ((own_b xx) &&& (1 : Int64)))), .second, .unset] [(.long (own_b xx)), (.long (3 : Int64)), (.long ((2 : Int64) * (own_steps (own_b xx))))])) (fun t_ K => XS.lloadN X1.here hx rfl (hb hby at_44) rfl K) ?_
  refine own_go (T' := T1) (g' := (mkF m 46 #[.val (.long xx), .second, .val (.long (own_b xx)), .second, .val (.long (own_steps (own_b xx))), .second, .val (.long ((own_b xx) >>> ((1 : Int32).toInt64 &&& 63))), .second, .val (.long ((own_b xx) &&& (1 : Int64))), .second, .val (.long (((own_b xx) + ((own_b xx) >>> ((1 : Int32).toInt64 &&& 63))) + ((own_b xx) &&& (1 : Int64)))), .second, .unset] [(.long ((3 : Int64) * (own_b xx))), (.long ((2 : Int64) * (own_steps (own_b xx))))])) (fun t_ K => XT.lmul X1.here hx rfl (hb hby at_45) rfl K) ?_
  refine own_go (T' := T1) (g' := (mkF m 47 #[.val (.long xx), .second, .val (.long (own_b xx)), .second, .val (.long (own_steps (own_b xx))), .second, .val (.long ((own_b xx) >>> ((1 : Int32).toInt64 &&& 63))), .second, .val (.long ((own_b xx) &&& (1 : Int64))), .second, .val (.long (((own_b xx) + ((own_b xx) >>> ((1 : Int32).toInt64 &&& 63))) + ((own_b xx) &&& (1 : Int64)))), .second, .unset] [(.long (((2 : Int64) * (own_steps (own_b xx))) - ((3 : Int64) * (own_b xx))))])) (fun t_ K => XT.lsub X1.here hx rfl (hb hby at_46) rfl K) ?_
  refine own_go (T' := T1) (g' := (mkF m 49 #[.val (.long xx), .second, .val (.long (own_b xx)), .second, .val (.long (own_steps (own_b xx))), .second, .val (.long ((own_b xx) >>> ((1 : Int32).toInt64 &&& 63))), .second, .val (.long ((own_b xx) &&& (1 : Int64))), .second, .val (.long (((own_b xx) + ((own_b xx) >>> ((1 : Int32).toInt64 &&& 63))) + ((own_b xx) &&& (1 : Int64)))), .second, .unset] [(.long ((own_b xx) &&& (1 : Int64))), (.long (((2 : Int64) * (own_steps (own_b xx))) - ((3 : Int64) * (own_b xx))))])) (fun t_ K => XS.lload X1.here hx rfl (hb hby at_47) rfl K) ?_
  refine own_go (T' := T1) (g' := (mkF m 50 #[.val (.long xx), .second, .val (.long (own_b xx)), .second, .val (.long (own_steps (own_b xx))), .second, .val (.long ((own_b xx) >>> ((1 : Int32).toInt64 &&& 63))), .second, .val (.long ((own_b xx) &&& (1 : Int64))), .second, .val (.long (((own_b xx) + ((own_b xx) >>> ((1 : Int32).toInt64 &&& 63))) + ((own_b xx) &&& (1 : Int64)))), .second, .unset] [(.int (lcmpW (((2 : Int64) * (own_steps (own_b xx))) - ((3 : Int64) * (own_b xx))) ((own_b xx) &&& (1 : Int64))))])) (fun t_ K => XS.lcmp X1.here hx rfl (hb hby at_49) rfl K) ?_
  refine own_go (T' := T1) (g' := (mkF m 53 #[.val (.long xx), .second, .val (.long (own_b xx)), .second, .val (.long (own_steps (own_b xx))), .second, .val (.long ((own_b xx) >>> ((1 : Int32).toInt64 &&& 63))), .second, .val (.long ((own_b xx) &&& (1 : Int64))), .second, .val (.long (((own_b xx) + ((own_b xx) >>> ((1 : Int32).toInt64 &&& 63))) + ((own_b xx) &&& (1 : Int64)))), .second, .unset] [])) (fun t_ K => XS.ifNo X1.here hx rfl (hb hby at_50) rfl ((if0 _ _).trans (teq ((lw_eq (((2 : Int64) * (own_steps (own_b xx))) - ((3 : Int64) * (own_b xx))) ((own_b xx) &&& (1 : Int64))).mpr (own_k1 xx))).2) K) ?_
  refine own_go (T' := T1) (g' := (mkF m 54 #[.val (.long xx), .second, .val (.long (own_b xx)), .second, .val (.long (own_steps (own_b xx))), .second, .val (.long ((own_b xx) >>> ((1 : Int32).toInt64 &&& 63))), .second, .val (.long ((own_b xx) &&& (1 : Int64))), .second, .val (.long (((own_b xx) + ((own_b xx) >>> ((1 : Int32).toInt64 &&& 63))) + ((own_b xx) &&& (1 : Int64)))), .second, .unset] [(.int (1 : Int32))])) (fun t_ K => XS.iconst X1.here hx rfl (hb hby at_53) K) ?_
  refine own_go (T' := T1) (g' := (mkF m 58 #[.val (.long xx), .second, .val (.long (own_b xx)), .second, .val (.long (own_steps (own_b xx))), .second, .val (.long ((own_b xx) >>> ((1 : Int32).toInt64 &&& 63))), .second, .val (.long ((own_b xx) &&& (1 : Int64))), .second, .val (.long (((own_b xx) + ((own_b xx) >>> ((1 : Int32).toInt64 &&& 63))) + ((own_b xx) &&& (1 : Int64)))), .second, .unset] [(.int (1 : Int32))])) (fun t_ K => XS.goto X1.here hx rfl (pc0 := 54) (pc' := 58) rfl (hb hby at_54) (by decide) (by decide) K) ?_
  refine own_go (T' := T1) (g' := (mkF m 60 #[.val (.long xx), .second, .val (.long (own_b xx)), .second, .val (.long (own_steps (own_b xx))), .second, .val (.long ((own_b xx) >>> ((1 : Int32).toInt64 &&& 63))), .second, .val (.long ((own_b xx) &&& (1 : Int64))), .second, .val (.long (((own_b xx) + ((own_b xx) >>> ((1 : Int32).toInt64 &&& 63))) + ((own_b xx) &&& (1 : Int64)))), .second, .val (.int (1 : Int32))] [])) (fun t_ K => XS.istore X1.here hx rfl (hb hby at_58) rfl (l' := #[.val (.long xx), .second, .val (.long (own_b xx)), .second, .val (.long (own_steps (own_b xx))), .second, .val (.long ((own_b xx) >>> ((1 : Int32).toInt64 &&& 63))), .second, .val (.long ((own_b xx) &&& (1 : Int64))), .second, .val (.long (((own_b xx) + ((own_b xx) >>> ((1 : Int32).toInt64 &&& 63))) + ((own_b xx) &&& (1 : Int64)))), .second, .val (.int (1 : Int32))]) rfl K) ?_
  refine own_go (T' := T1) (g' := (mkF m 62 #[.val (.long xx), .second, .val (.long (own_b xx)), .second, .val (.long (own_steps (own_b xx))), .second, .val (.long ((own_b xx) >>> ((1 : Int32).toInt64 &&& 63))), .second, .val (.long ((own_b xx) &&& (1 : Int64))), .second, .val (.long (((own_b xx) + ((own_b xx) >>> ((1 : Int32).toInt64 &&& 63))) + ((own_b xx) &&& (1 : Int64)))), .second, .val (.int (1 : Int32))] [(.long (own_steps (own_b xx)))])) (fun t_ K => XS.lload X1.here hx rfl (hb hby at_60) rfl K) ?_
  refine own_go (T' := T1) (g' := (mkF m 64 #[.val (.long xx), .second, .val (.long (own_b xx)), .second, .val (.long (own_steps (own_b xx))), .second, .val (.long ((own_b xx) >>> ((1 : Int32).toInt64 &&& 63))), .second, .val (.long ((own_b xx) &&& (1 : Int64))), .second, .val (.long (((own_b xx) + ((own_b xx) >>> ((1 : Int32).toInt64 &&& 63))) + ((own_b xx) &&& (1 : Int64)))), .second, .val (.int (1 : Int32))] [(.long (((own_b xx) + ((own_b xx) >>> ((1 : Int32).toInt64 &&& 63))) + ((own_b xx) &&& (1 : Int64)))), (.long (own_steps (own_b xx)))])) (fun t_ K => XS.lload X1.here hx rfl (hb hby at_62) rfl K) ?_
  refine own_go (T' := T1) (g' := (mkF m 65 #[.val (.long xx), .second, .val (.long (own_b xx)), .second, .val (.long (own_steps (own_b xx))), .second, .val (.long ((own_b xx) >>> ((1 : Int32).toInt64 &&& 63))), .second, .val (.long ((own_b xx) &&& (1 : Int64))), .second, .val (.long (((own_b xx) + ((own_b xx) >>> ((1 : Int32).toInt64 &&& 63))) + ((own_b xx) &&& (1 : Int64)))), .second, .val (.int (1 : Int32))] [(.int (lcmpW (own_steps (own_b xx)) (((own_b xx) + ((own_b xx) >>> ((1 : Int32).toInt64 &&& 63))) + ((own_b xx) &&& (1 : Int64)))))])) (fun t_ K => XS.lcmp X1.here hx rfl (hb hby at_64) rfl K) ?_
  refine own_go (T' := T1) (g' := (mkF m 68 #[.val (.long xx), .second, .val (.long (own_b xx)), .second, .val (.long (own_steps (own_b xx))), .second, .val (.long ((own_b xx) >>> ((1 : Int32).toInt64 &&& 63))), .second, .val (.long ((own_b xx) &&& (1 : Int64))), .second, .val (.long (((own_b xx) + ((own_b xx) >>> ((1 : Int32).toInt64 &&& 63))) + ((own_b xx) &&& (1 : Int64)))), .second, .val (.int (1 : Int32))] [])) (fun t_ K => XS.ifNo X1.here hx rfl (hb hby at_65) rfl ((if0 _ _).trans (teq ((lw_eq (own_steps (own_b xx)) (((own_b xx) + ((own_b xx) >>> ((1 : Int32).toInt64 &&& 63))) + ((own_b xx) &&& (1 : Int64)))).mpr (own_k2 xx))).2) K) ?_
  refine own_go (T' := T1) (g' := (mkF m 70 #[.val (.long xx), .second, .val (.long (own_b xx)), .second, .val (.long (own_steps (own_b xx))), .second, .val (.long ((own_b xx) >>> ((1 : Int32).toInt64 &&& 63))), .second, .val (.long ((own_b xx) &&& (1 : Int64))), .second, .val (.long (((own_b xx) + ((own_b xx) >>> ((1 : Int32).toInt64 &&& 63))) + ((own_b xx) &&& (1 : Int64)))), .second, .val (.int (1 : Int32))] [(.int (1 : Int32))])) (fun t_ K => XS.iload X1.here hx rfl (hb hby at_68) rfl K) ?_
  refine own_go (T' := T1) (g' := (mkF m 73 #[.val (.long xx), .second, .val (.long (own_b xx)), .second, .val (.long (own_steps (own_b xx))), .second, .val (.long ((own_b xx) >>> ((1 : Int32).toInt64 &&& 63))), .second, .val (.long ((own_b xx) &&& (1 : Int64))), .second, .val (.long (((own_b xx) + ((own_b xx) >>> ((1 : Int32).toInt64 &&& 63))) + ((own_b xx) &&& (1 : Int64)))), .second, .val (.int (1 : Int32))] [])) (fun t_ K => XS.ifNo X1.here hx rfl (hb hby at_70) rfl ((if0 _ _).trans (feq (by decide : ¬ ((1 : Int32) = (0 : Int32)))).1) K) ?_
  refine own_go (T' := T1) (g' := (mkF m 74 #[.val (.long xx), .second, .val (.long (own_b xx)), .second, .val (.long (own_steps (own_b xx))), .second, .val (.long ((own_b xx) >>> ((1 : Int32).toInt64 &&& 63))), .second, .val (.long ((own_b xx) &&& (1 : Int64))), .second, .val (.long (((own_b xx) + ((own_b xx) >>> ((1 : Int32).toInt64 &&& 63))) + ((own_b xx) &&& (1 : Int64)))), .second, .val (.int (1 : Int32))] [(.int (1 : Int32))])) (fun t_ K => XS.iconst X1.here hx rfl (hb hby at_73) K) ?_
  refine own_go (T' := T1) (g' := (mkF m 78 #[.val (.long xx), .second, .val (.long (own_b xx)), .second, .val (.long (own_steps (own_b xx))), .second, .val (.long ((own_b xx) >>> ((1 : Int32).toInt64 &&& 63))), .second, .val (.long ((own_b xx) &&& (1 : Int64))), .second, .val (.long (((own_b xx) + ((own_b xx) >>> ((1 : Int32).toInt64 &&& 63))) + ((own_b xx) &&& (1 : Int64)))), .second, .val (.int (1 : Int32))] [(.int (1 : Int32))])) (fun t_ K => XS.goto X1.here hx rfl (pc0 := 74) (pc' := 78) rfl (hb hby at_74) (by decide) (by decide) K) ?_
  exact own_retZ X1 hx Bd.returns hlk (Or.inr rfl) (hb hby at_78) ⟨rfl, rfl, e1⟩ (by decide) (by decide)
set_option maxRecDepth 65536 in
set_option maxHeartbeats 40000000 in
theorem comes_1 {Post : Tables → Env → Array Value → State → Outcome → State → Prop} (hpost : ∀ tb e args s v u, (limb_1_1.after args s (.returned v) u = true ∧ limb_1_2.after args s (.returned v) u = true ∧ True) → FrameEnd s (.returned v) u (Jvm.fieldLocs frame_1_writes args s ++ Jvm.arrayLocs frame_1_arrays args s ++ Jvm.staticLocs frame_1_statics s) 0 0 → Post tb e args s (.returned v) u) :
    ArmFor flags0 classFile x code maxLocals ret World_1 tables_1 room_1 Calls_1 rest_1 Pre_1 Post := by
  intro l hfl _ _ p e ha hc hk s m args below hf hA hF happ hP
  obtain ⟨hcalls, hrest, hpre⟩ := hP
  obtain ⟨-, -, -, hnamed, -, -, -, hat⟩ := (Spec.applies_iff hf).mp happ
  obtain ⟨hg, hn⟩ := and_e (Cond.before_iff.mp (show (Jvm.Cond.and given_1 narrow_1).before args s = true from hpre))
  obtain ⟨hcount, hk0⟩ := and_e hg
  obtain ⟨w0, rfl⟩ : ∃ w0 : Value, args = #[w0] := by
    have hs : args.size = 1 := by simpa [Cond.value, given_1] using hcount
    obtain ⟨L⟩ := args
    match L, hs with
    | [w0], _ => exact ⟨w0, rfl⟩
  have hw := fun d (hd : d ∈ tables_1) => atoms_spec (ws := Jvm.Cond.code x code maxLocals ret :: tables_1) hat d (List.mem_cons_of_mem _ hd)
  have hfit : Fit s := fun {y c} hc i hi => by
    obtain ⟨ha, rfl⟩ := Array.getElem?_eq_some_iff.mp hc
    have q := List.all_eq_true.mp ((Array.all_eq_true_iff_forall_mem.mp hF) _ (Array.getElem_mem ha)) i (List.mem_range.mpr hi)
    simpa [Array.getElem?_eq_getElem hi] using q
  obtain ⟨q0, f0⟩ := isL_v hk0
  obtain rfl : w0 = (.long q0) := Option.some.inj f0
  obtain ⟨n, o, h1, h2, h3, _, L, rfl, hQ, hq⟩ := rm_law l s _ hw tables_1 q0 s.heap p e ha hc hk s m _ below hf ((Spec.applies_iff_loose hf).mp happ).1 ⟨rfl, State.Warmed39.refl s, rfl⟩ trivial
  obtain ⟨rfl, rfl, -⟩ := hQ
  refine ⟨n, _, h1, h2, h3, hpost _ _ _ _ _ _ ⟨Cond.after_iff.mpr rfl, Cond.after_iff.mpr (eq_i res_at (Term.int_eval (1)) rfl), trivial⟩ ⟨hq.1, hq.2.1, (hq.2.2.sift fun y hy => nomatch hy).mono (by decide) (by decide)⟩⟩
theorem main_1_1 : Claimed_1_1 := comes_1 fun _ _ _ _ _ _ h hF => ⟨h.1, hF⟩
theorem main_1_2 : Claimed_1_2 := comes_1 fun _ _ _ _ _ _ h hF => ⟨h.2.1, hF⟩
end Jvm.Pilot.@@N@@
namespace Jvm.Pilot.@@N@@
open Jvm Jvm.ClassFile Sem Op Lib Jvm.Free Jvm.Stand Jvm.Pilot.@@N@@.Jvm.D
/-! MADE BY PROGRAM (witnessworld.py) out of the Statement's table words and the real class files: 10 classes; the members and pool entries that the words name. The judged class is class 1, her method 1. -/
namespace start1
open Jvm.ClassFile
def u (s : String) : CpInfo := .utf8 (stringToUtf16 s)
/-- a pool by its gaps: so many unusable entries, then the entry; so many at the end -/
def gap : Nat → List CpInfo → List CpInfo
  | 0, r => r
  | n + 1, r => .unusable :: gap n r
def poolList (es : List (Nat × CpInfo)) (last : Nat) : List CpInfo := es.foldr (fun e r => gap e.1 (e.2 :: r)) (gap last [])
def pool (es : List (Nat × CpInfo)) (last : Nat) : Array CpInfo := ⟨poolList es last⟩
def fileOf (pool : Array CpInfo) (this : Nat) (attrs : Array Attribute := #[]) (ms : Array MethodInfo := #[]) (fl : Nat := 33) (sup : Nat := 0) (ifs : Array Nat := #[]) (fds : Array FieldInfo := #[]) : ClassFile where
  minorVersion := 0
  majorVersion := 65
  constantPool := pool
  accessFlags := fl
  thisClass := this
  superClass := sup
  interfaces := ifs
  fields := fds
  methods := ms
  attributes := attrs
def plain (name : String) (sup : Option ClassId) : Class where
  name := name
  kind := .ordinary
  loader := none
  accessFlags := 33
  super := sup
  interfaces := #[]
  cf := none
  fields := #[]
  methods := #[]
  instanceTypes := #[]
  staticTypes := #[]
  resolved := #[]
  callSites := []
  init := .initialized
  statics := none
  mirror := none

def pool0 : Array CpInfo := pool [(5, u "<init>"), (0, u "()V"), (1, .class_ 10), (1, u "java/lang/Object")] 113

def k0m0 : Method := { name := "<init>", desc := "()V", sig := { parameters := [], returnType := none }, accessFlags := 1, code := none }
/-- java/lang/Object -/
def k0 : Class := { plain "java/lang/Object" none with
  accessFlags := 33
  interfaces := #[]
  cf := some (fileOf pool0 8 #[] #[{ accessFlags := 1, nameIndex := 5, descriptorIndex := 6, attributes := #[] }] 33 0 #[] #[])
  fields := #[]
  methods := #[k0m0]
  instanceTypes := #[]
  staticTypes := #[]
  resolved := Array.replicate 124 none
  statics := none }

def pool1 : Array CpInfo := pool [(2, .class_ 4), (1, u "java/lang/Object"), (0, u "<init>"), (0, u "()V"), (0, .long 4611686018427387903), (1, .long 2305843009213693953), (1, .methodref 12 13), (0, .class_ 14), (0, .nameAndType 15 16), (0, u "com/example/hosts_to_leader/hoststoleader/service/LargeGroup"), (0, u "steps"), (0, u "(J)J"), (0, .long 2), (1, .long 3), (1, .class_ 22), (0, u "com/example/hosts_to_leader/hoststoleader/service/LargeGroupStepsPinLaw"), (2, u "law"), (0, u "(J)Z")] 3

def k1m0 : Method := { name := "<init>", desc := "()V", sig := { parameters := [], returnType := none }, accessFlags := 2, code := none }
def k1c1 : Code := { maxStack := 6, maxLocals := 13, code := code, exceptionTable := #[], attributes := #[] }
def k1m1 : Method := { name := "law", desc := "(J)Z", sig := { parameters := [.long], returnType := some .boolean }, accessFlags := 9, code := some k1c1 }
/-- com/example/hosts_to_leader/hoststoleader/service/LargeGroupStepsPinLaw -/
def k1 : Class := { plain "com/example/hosts_to_leader/hoststoleader/service/LargeGroupStepsPinLaw" (some 0) with
  accessFlags := 49
  interfaces := #[]
  cf := some (fileOf pool1 21 #[] #[{ accessFlags := 2, nameIndex := 5, descriptorIndex := 6, attributes := #[] }, { accessFlags := 9, nameIndex := 25, descriptorIndex := 26, attributes := #[] }] 49 2 #[] #[])
  fields := #[]
  methods := #[k1m0, k1m1]
  instanceTypes := #[]
  staticTypes := #[]
  resolved := Array.replicate 30 none
  statics := none }

def pool2 : Array CpInfo := pool [(1, .class_ 2), (0, u "com/example/hosts_to_leader/hoststoleader/service/Protocol"), (0, .class_ 4), (0, u "java/lang/Object")] 4

/-- com/example/hosts_to_leader/hoststoleader/service/Protocol -/
def k2 : Class := { plain "com/example/hosts_to_leader/hoststoleader/service/Protocol" (some 0) with
  accessFlags := 1537
  interfaces := #[]
  cf := some (fileOf pool2 1 #[] #[] 1537 3 #[] #[])
  fields := #[]
  methods := #[]
  instanceTypes := #[]
  staticTypes := #[]
  resolved := Array.replicate 9 none
  statics := none }

def pool3 : Array CpInfo := pool [(6, .class_ 8), (1, u "java/lang/Object"), (2, .class_ 12), (0, u "com/example/hosts_to_leader/hoststoleader/service/LargeGroup"), (12, u "hosts"), (0, u "I"), (2, u "loss"), (0, u "D"), (2, u "crash"), (2, u "view"), (2, u "k"), (2, u "maxRounds"), (19, .class_ 63), (0, u "com/example/hosts_to_leader/hoststoleader/service/LargeGroup$Election"), (23, .long 3), (1, .long 2), (25, .class_ 116), (0, u "com/example/hosts_to_leader/hoststoleader/service/Protocol"), (0, u "NAME"), (0, u "Ljava/lang/String;"), (3, u "DEFAULT_LOSS"), (2, u "DEFAULT_CRASH"), (0, u "DEFAULT_VIEW"), (2, u "DEFAULT_K"), (1, u "DEFAULT_MAX_ROUNDS"), (1, u "MOST_HOSTS"), (0, u "BOUND_CAP"), (0, u "J"), (0, u "NOBODY"), (1, u "SEVERAL"), (1, u "SURVIVES"), (2, u "DOWN"), (17, u "steps"), (0, u "(J)J"), (12, .class_ 176), (0, u "com/example/hosts_to_leader/hoststoleader/service/LargeGroup$Election$1")] 21

def k3c0 : Code := { maxStack := 4, maxLocals := 2, code := prog_29_method_9_code, exceptionTable := #[], attributes := #[] }
def k3m0 : Method := { name := "steps", desc := "(J)J", sig := { parameters := [.long], returnType := some .long }, accessFlags := 8, code := some k3c0 }
/-- com/example/hosts_to_leader/hoststoleader/service/LargeGroup -/
def k3 : Class := { plain "com/example/hosts_to_leader/hoststoleader/service/LargeGroup" (some 0) with
  accessFlags := 49
  interfaces := #[2]
  cf := some (fileOf pool3 11 #[.nestMembers #[62, 175]] #[{ accessFlags := 8, nameIndex := 161, descriptorIndex := 162, attributes := #[] }] 49 6 #[115] #[{ accessFlags := 25, nameIndex := 117, descriptorIndex := 118, attributes := #[] }, { accessFlags := 26, nameIndex := 122, descriptorIndex := 30, attributes := #[] }, { accessFlags := 26, nameIndex := 125, descriptorIndex := 30, attributes := #[] }, { accessFlags := 26, nameIndex := 126, descriptorIndex := 30, attributes := #[] }, { accessFlags := 26, nameIndex := 129, descriptorIndex := 26, attributes := #[] }, { accessFlags := 26, nameIndex := 131, descriptorIndex := 26, attributes := #[] }, { accessFlags := 26, nameIndex := 133, descriptorIndex := 26, attributes := #[] }, { accessFlags := 26, nameIndex := 134, descriptorIndex := 135, attributes := #[] }, { accessFlags := 24, nameIndex := 136, descriptorIndex := 26, attributes := #[] }, { accessFlags := 24, nameIndex := 138, descriptorIndex := 26, attributes := #[] }, { accessFlags := 26, nameIndex := 140, descriptorIndex := 135, attributes := #[] }, { accessFlags := 26, nameIndex := 143, descriptorIndex := 135, attributes := #[] }, { accessFlags := 18, nameIndex := 25, descriptorIndex := 26, attributes := #[] }, { accessFlags := 18, nameIndex := 29, descriptorIndex := 30, attributes := #[] }, { accessFlags := 18, nameIndex := 33, descriptorIndex := 30, attributes := #[] }, { accessFlags := 18, nameIndex := 36, descriptorIndex := 30, attributes := #[] }, { accessFlags := 18, nameIndex := 39, descriptorIndex := 26, attributes := #[] }, { accessFlags := 18, nameIndex := 42, descriptorIndex := 26, attributes := #[] }])
  fields := #[{ name := "NAME", type := (.object "java/lang/String"), accessFlags := 25, slot := 0, constantValue := 0 }, { name := "DEFAULT_LOSS", type := .double, accessFlags := 26, slot := 1, constantValue := 0 }, { name := "DEFAULT_CRASH", type := .double, accessFlags := 26, slot := 2, constantValue := 0 }, { name := "DEFAULT_VIEW", type := .double, accessFlags := 26, slot := 3, constantValue := 0 }, { name := "DEFAULT_K", type := .int, accessFlags := 26, slot := 4, constantValue := 0 }, { name := "DEFAULT_MAX_ROUNDS", type := .int, accessFlags := 26, slot := 5, constantValue := 0 }, { name := "MOST_HOSTS", type := .int, accessFlags := 26, slot := 6, constantValue := 0 }, { name := "BOUND_CAP", type := .long, accessFlags := 26, slot := 7, constantValue := 0 }, { name := "NOBODY", type := .int, accessFlags := 24, slot := 8, constantValue := 0 }, { name := "SEVERAL", type := .int, accessFlags := 24, slot := 9, constantValue := 0 }, { name := "SURVIVES", type := .long, accessFlags := 26, slot := 10, constantValue := 0 }, { name := "DOWN", type := .long, accessFlags := 26, slot := 11, constantValue := 0 }, { name := "hosts", type := .int, accessFlags := 18, slot := 0, constantValue := 0 }, { name := "loss", type := .double, accessFlags := 18, slot := 1, constantValue := 0 }, { name := "crash", type := .double, accessFlags := 18, slot := 2, constantValue := 0 }, { name := "view", type := .double, accessFlags := 18, slot := 3, constantValue := 0 }, { name := "k", type := .int, accessFlags := 18, slot := 4, constantValue := 0 }, { name := "maxRounds", type := .int, accessFlags := 18, slot := 5, constantValue := 0 }]
  methods := #[k3m0]
  instanceTypes := #[.int, .double, .double, .double, .int, .int]
  staticTypes := #[(.object "java/lang/String"), .double, .double, .double, .int, .int, .int, .long, .int, .int, .long, .long]
  resolved := Array.replicate 198 none
  statics := none }

def pool4 : Array CpInfo := pool [(1, u "java/lang/Cloneable"), (0, .class_ 1), (0, u "java/lang/Object"), (0, .class_ 3)] 3

/-- java/lang/Cloneable -/
def k4 : Class := { plain "java/lang/Cloneable" (some 0) with
  accessFlags := 1537
  interfaces := #[]
  cf := some (fileOf pool4 2 #[] #[] 1537 4 #[] #[])
  fields := #[]
  methods := #[]
  instanceTypes := #[]
  staticTypes := #[]
  resolved := Array.replicate 8 none
  statics := none }

def pool5 : Array CpInfo := pool [(1, u "java/io/Serializable"), (0, .class_ 1), (0, u "java/lang/Object"), (0, .class_ 3)] 3

/-- java/io/Serializable -/
def k5 : Class := { plain "java/io/Serializable" (some 0) with
  accessFlags := 1537
  interfaces := #[]
  cf := some (fileOf pool5 2 #[] #[] 1537 4 #[] #[])
  fields := #[]
  methods := #[]
  instanceTypes := #[]
  staticTypes := #[]
  resolved := Array.replicate 8 none
  statics := none }

/-- the primitive byte -/
def k6 : Class := { plain "byte" none with kind := .primitive 'B', accessFlags := 0x411 }
/-- [B -/
def k7 : Class := { plain "[B" (some 0) with kind := .array 6 .byte, interfaces := #[4, 5], accessFlags := 1041 }

/-- the primitive int -/
def k8 : Class := { plain "int" none with kind := .primitive 'I', accessFlags := 0x411 }
/-- [I -/
def k9 : Class := { plain "[I" (some 0) with kind := .array 8 .int, interfaces := #[4, 5], accessFlags := 1041 }

def heap : Heap := #[]
def classes : Array Class := #[k0, k1, k2, k3, k4, k5, k6, k7, k8, k9]
def interned : List (Array UInt16 × Addr) := []
def slotsUsed : Nat := 0
def theMethod : MethodId := ⟨1, 1⟩
def args0 : Array Value := #[.long 5]
def aboutOver (below : List Frame) : State where
  vm := { classes := classes, interned := interned.toArray }
  heap := heap
  slotsUsed := slotsUsed
  threads := #[{ frames := .invoking theMethod args0 :: below }]
def below0 : List Frame := [.native { method := ⟨0, 0⟩, args := #[] }]
def about1 : State := aboutOver below0
def p0 : Program := .bare "" "" ""
def e0 : Env := launch0.env 0 0 0
theorem w_frames : about1.frames = Frame.invoking theMethod args0 :: below0 := rfl
set_option maxRecDepth 65536 in
theorem w_args : argsFit about1.vm theMethod args0 = true := by decide +kernel
set_option maxRecDepth 65536 in
theorem w_heap : heapFits about1 = true := by decide +kernel
set_option maxRecDepth 65536 in
theorem w_runnable : about1.curStatus? = some .runnable := by decide +kernel
set_option maxRecDepth 65536 in
theorem w_alone : about1.alone = true := by decide +kernel
set_option maxRecDepth 65536 in
theorem w_named : about1.methodNamed? x = some theMethod := by decide +kernel
set_option maxRecDepth 65536 in
theorem w_hears : about1.hears theMethod below0 = true := by decide +kernel
set_option maxRecDepth 65536 in
theorem w_ripe : about1.ripe theMethod args0 below0 = true := by decide +kernel
theorem w_running : about1.status = .running := rfl
set_option maxRecDepth 65536 in
theorem w_room : about1.hasRoom e0.platform room_1 = true :=
  launch0.hasRoom_least _ room_1 (by decide +kernel) (by decide +kernel) (by decide +kernel) (by decide +kernel) (by decide +kernel) (by decide +kernel)
theorem allAtoms_all (ts : List Jvm.Cond) (a : Array Jvm.Value) (st : Jvm.State) : (allAtoms ts).before a st = ts.all (fun c => c.before a st) := by
  induction ts with
  | nil => rfl
  | cons c t ih =>
    show (Jvm.Cond.and c (allAtoms t)).before a st = _
    rw [Jvm.Cond.before_and, ih, List.all_cons]
def words1 : List Jvm.Cond := Jvm.Cond.code x code maxLocals ret :: tables_1
/-- a 'code' word, met by the world's own term for the bytes: nothing is compared byte by byte -/
theorem code_word {y : MethodName} {bytes : ByteArray} {mx : Nat} {rt : Option FieldType} {a : Array Value} {s : State} {m : MethodId} {meth : Method} {c : Code} (h1 : s.methodNamed? y = some m) (h2 : s.vm.method? m = some meth) (h3 : meth.code = some c) (h4 : c.code = bytes)
    (h5 : (c.maxLocals == mx && c.exceptionTable.isEmpty && decide (c.maxStack ≤ mostOperands) && decide (meth.sig.returnType = rt) && !meth.locks && decide (parseMethodDescriptor y.desc = some meth.sig)) = true) : (Jvm.Cond.code y bytes mx rt).before a s = true := by
  simp only [Bool.and_eq_true, beq_iff_eq, Bool.not_eq_true', decide_eq_true_eq] at h5
  obtain ⟨⟨⟨⟨⟨g1, g2⟩, g3⟩, g4⟩, g5⟩, g6⟩ := h5
  simp [Cond.before, Cond.holds, Cond.value, h1, h2, h3, h4, g1, g2, g3, g4, g5, g6]
def isCode : Jvm.Cond → Bool
  | .code _ _ _ _ => true
  | _ => false
theorem all_split {L : List Jvm.Cond} {P : Jvm.Cond → Bool} (h1 : L.all (fun c => isCode c || P c) = true) (h2 : ∀ c ∈ L.filter isCode, P c = true) : L.all P = true := by
  refine List.all_eq_true.mpr fun c hc => ?_
  have h := List.all_eq_true.mp h1 c hc
  rcases Bool.eq_false_or_eq_true (isCode c) with hi | hi
  · exact h2 c (List.mem_filter.mpr ⟨hc, hi⟩)
  · simpa [hi] using h
set_option maxRecDepth 65536 in
theorem w_c0 : (Jvm.Cond.code x code maxLocals ret).before args0 about1 = true := code_word (m := ⟨1, 1⟩) (meth := k1m1) (c := k1c1) (by decide +kernel) rfl rfl rfl (by decide +kernel)
set_option maxRecDepth 65536 in
theorem w_c1 : (Jvm.Cond.code ({ cls := "com/example/hosts_to_leader/hoststoleader/service/LargeGroup", name := "steps", desc := "(J)J" } : Jvm.MethodName) prog_29_method_9_code (2 : Nat) (Option.some Jvm.ClassFile.FieldType.long)).before args0 about1 = true := code_word (m := ⟨3, 0⟩) (meth := k3m0) (c := k3c0) (by decide +kernel) rfl rfl rfl (by decide +kernel)
def codes1 : List Jvm.Cond := [Jvm.Cond.code x code maxLocals ret, Jvm.Cond.code ({ cls := "com/example/hosts_to_leader/hoststoleader/service/LargeGroup", name := "steps", desc := "(J)J" } : Jvm.MethodName) prog_29_method_9_code (2 : Nat) (Option.some Jvm.ClassFile.FieldType.long)]
set_option maxRecDepth 65536 in
theorem codes_eq : words1.filter isCode = codes1 := rfl
theorem w_codes : ∀ c ∈ words1.filter isCode, c.before args0 about1 = true := by
  rw [codes_eq]
  intro c hc
  simp only [codes1, List.mem_cons, List.not_mem_nil, or_false] at hc
  rcases hc with rfl | rfl
  · exact w_c0
  · exact w_c1
set_option maxRecDepth 65536 in
theorem w_t1 : words1.all (fun c => isCode c || c.before args0 about1) = true := by decide +kernel
theorem w_tables : (allAtoms (Jvm.Cond.code x code maxLocals ret :: tables_1)).before args0 about1 = true := by
  rw [allAtoms_all]
  show words1.all (fun c => c.before args0 about1) = true
  refine all_split ?_ w_codes
  rw [w_t1]
set_option maxRecDepth 65536 in
theorem w_case : (Jvm.Cond.and given_1 narrow_1).before args0 about1 = true := by decide +kernel
theorem w_applies : (headSpec (Jvm.Cond.code x code maxLocals ret :: tables_1) room_1).applies x e0.platform about1 = true :=
  (Spec.applies_iff w_frames).mpr ⟨w_running, w_runnable, w_alone, w_named, w_hears, w_ripe, w_room, w_tables⟩
theorem atStart : AtStart classFile x code maxLocals ret World_1 tables_1 room_1 Calls_1 rest_1 Pre_1 launch0 p0 e0 about1 theMethod args0 below0 :=
  ⟨lists_1, trivial, launch0.admits_env _ _ _, launch0.least_env, fairChoices_fair.cas, fairChoices_fair.clock, w_frames, w_args, w_heap, w_applies, trivial, trivial, w_case⟩
end start1
theorem witness_1 : WitnessClaimed_1 := ⟨start1.p0, start1.e0, start1.about1, start1.theMethod, start1.args0, start1.below0, start1.atStart⟩
end Jvm.Pilot.@@N@@
