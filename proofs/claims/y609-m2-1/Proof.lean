import JvmDerived
import JvmDerived.Pilot.@@N@@Statement
import JvmDerived.Pilot.@@N@@Code
set_option linter.unusedVariables false
set_option linter.unusedSimpArgs false
@@BLOCK:NumsL.lean.txt@@
namespace Jvm.Pilot.@@N@@
open Jvm Jvm.ClassFile Sem Op Lib Jvm.Free Jvm.Stand Jvm.LawKit Jvm.RoadKit Bundle Jvm.Pilot.@@N@@.Jvm.D
/-! The walk in the continuation's form: 'Goes' says of a place (state, frame) that from it the body ends as Q says. -/
def Goes (p : Program) (e : Env) (below : List Frame) (s : State) (Q : Option Value → Heap → List Loc → Prop) (k n : Nat) (T : State) (g : JFrame) : Prop :=
  ∃ s₂ o, Steps p.tables e below (T.setTop g) s₂ ∧ s₂.status = .running ∧ Ended s₂ below o ∧ ∃ v L, o = .returned v ∧ Q v s₂.heap L ∧ FrameEnd s o s₂ L k n
section OwnKit
variable {p : Program} {l : Launch} {e : Env} {R : Room} {s : State} {m : MethodId} {args : Array Value} {below : List Frame} {meth : Method} {c : Code} {T T' : State} {locs : List Loc} {cells slots : Nat} {Q : Option Value → Heap → List Loc → Prop} {k n : Nat} {g g' : JFrame}
theorem own_go (f : ∀ t, Steps p.tables e below (T'.setTop g') t → Steps p.tables e below (T.setTop g) t) (h : Goes p e below s Q k n T' g') : Goes p e below s Q k n T g := by
  obtain ⟨a, b, h1, r⟩ := h
  exact ⟨a, b, f _ h1, r⟩
theorem own_tr (f : Steps p.tables e below (T.setTop g) (T'.setTop g')) (h : Goes p e below s Q k n T' g') : Goes p e below s Q k n T g := by
  obtain ⟨a, b, h1, r⟩ := h
  exact ⟨a, b, f.trans h1, r⟩
theorem own_ret (X : Stand p l e R s m args below meth c T locs cells slots) (hx : p.tables.exec = Jvm.exec) {pc : Nat} {Ls : Array Slot} {w : Value} {t : FieldType} {i : Instr} {rest : List Value} (hret : meth.sig.returnType = some t) (hlocks : meth.locks = false) (hn : narrow t w = w)
    (hi : (i = .ireturn ∧ (t = .int ∨ t = .boolean ∨ t = .byte ∨ t = .char ∨ t = .short) ∧ ∃ z, w = .int z) ∨ (i = .lreturn ∧ t = .long ∧ ∃ z, w = .long z) ∨ (i = .dreturn ∧ t = .double ∧ ∃ z, w = .double z) ∨ (i = .freturn ∧ t = .float ∧ ∃ z, w = .float z) ∨ (i = .areturn ∧ t.isReference = true ∧ w.isRef = true))
    (hd : decode c.code pc = .ok (i, 1)) (hQ : Q (some w) T.heap locs) (hc : cells ≤ k) (hs : slots ≤ n) : Goes p e below s Q k n T (mkF m pc Ls (w :: rest)) := by
  obtain ⟨fs, hr, hrun, hended, hW, hsame⟩ := X.leave (v := some w) (fun h => by rw [hret] at h; cases h) hlocks
  exact ⟨_, _, retOut X hx hret hn hi hd hr, hrun, hended, _, _, rfl, hQ, ⟨_, rfl⟩, hW, hsame.mono hc hs⟩
theorem own_retI (X : Stand p l e R s m args below meth c T locs cells slots) (hx : p.tables.exec = Jvm.exec) {pc : Nat} {Ls : Array Slot} {z : Int32} {rest : List Value} (hret : meth.sig.returnType = some .int) (hlocks : meth.locks = false)
    (hd : decode c.code pc = .ok (.ireturn, 1)) (hQ : Q (some (.int z)) T.heap locs) (hc : cells ≤ k) (hs : slots ≤ n) : Goes p e below s Q k n T (mkF m pc Ls (.int z :: rest)) :=
  own_ret X hx hret hlocks rfl (Or.inl ⟨rfl, Or.inl rfl, z, rfl⟩) hd hQ hc hs
theorem own_retZ (X : Stand p l e R s m args below meth c T locs cells slots) (hx : p.tables.exec = Jvm.exec) {pc : Nat} {Ls : Array Slot} {z : Int32} {rest : List Value} (hret : meth.sig.returnType = some .boolean) (hlocks : meth.locks = false) (hz : z = 0 ∨ z = 1)
    (hd : decode c.code pc = .ok (.ireturn, 1)) (hQ : Q (some (.int z)) T.heap locs) (hc : cells ≤ k) (hs : slots ≤ n) : Goes p e below s Q k n T (mkF m pc Ls (.int z :: rest)) :=
  own_ret X hx hret hlocks (by rcases hz with rfl | rfl <;> rfl) (Or.inl ⟨rfl, Or.inr (Or.inl rfl), z, rfl⟩) hd hQ hc hs
theorem own_retJ (X : Stand p l e R s m args below meth c T locs cells slots) (hx : p.tables.exec = Jvm.exec) {pc : Nat} {Ls : Array Slot} {z : Int64} {rest : List Value} (hret : meth.sig.returnType = some .long) (hlocks : meth.locks = false)
    (hd : decode c.code pc = .ok (.lreturn, 1)) (hQ : Q (some (.long z)) T.heap locs) (hc : cells ≤ k) (hs : slots ≤ n) : Goes p e below s Q k n T (mkF m pc Ls (.long z :: rest)) :=
  own_ret X hx hret hlocks rfl (Or.inr (Or.inl ⟨rfl, rfl, z, rfl⟩)) hd hQ hc hs
theorem own_retA (X : Stand p l e R s m args below meth c T locs cells slots) (hx : p.tables.exec = Jvm.exec) {pc : Nat} {Ls : Array Slot} {w : Value} {t : FieldType} {rest : List Value} (hret : meth.sig.returnType = some t) (ht : t.isReference = true) (hlocks : meth.locks = false) (hw : w.isRef = true)
    (hd : decode c.code pc = .ok (.areturn, 1)) (hQ : Q (some w) T.heap locs) (hc : cells ≤ k) (hs : slots ≤ n) : Goes p e below s Q k n T (mkF m pc Ls (w :: rest)) :=
  own_ret X hx hret hlocks (by cases t <;> simp [FieldType.isReference] at ht <;> cases w <;> simp [Value.isRef] at hw <;> rfl) (Or.inr (Or.inr (Or.inr (Or.inr ⟨rfl, ht, hw⟩)))) hd hQ hc hs
theorem own_retV (X : Stand p l e R s m args below meth c T locs cells slots) (hx : p.tables.exec = Jvm.exec) {pc : Nat} {Ls : Array Slot} (hret : meth.sig.returnType = none) (hlocks : meth.locks = false)
    (hd : decode c.code pc = .ok (.return_, 1)) (hQ : Q none T.heap locs) (hc : cells ≤ k) (hs : slots ≤ n) : Goes p e below s Q k n T (mkF m pc Ls []) := by
  obtain ⟨fs, hr, hrun, hended, hW, hsame⟩ := X.leave (v := none) (fun _ => rfl) hlocks
  exact ⟨_, _, X.returnOut hx hret hd hr, hrun, hended, _, _, rfl, hQ, ⟨_, rfl⟩, hW, hsame.mono hc hs⟩
/-- what a callee that writes nothing leaves: its value r, the heap as it was -/
def own_pure (r : Option Value) (h0 : Heap) : Option Value → Heap → List Loc → Prop := fun v h L => v = r ∧ L = [] ∧ h = h0
/-- a callee's contract -/
abbrev Pays (l : Launch) (Z : State) (y : MethodName) (bytes : ByteArray) (maxL : Nat) (ret : Option FieldType) (rm : Room) (as' : Array Value) (h0 : Heap) (Q : Option Value → Heap → List Loc → Prop) : Prop :=
  MetFree l y (head1 [Jvm.Cond.code y bytes maxL ret] rm) (fun a U => a = as' ∧ Z.Warmed39 U.vm ∧ U.heap = h0) (fun _ _ _ _ _ => True) (fun _ U o U' => ∃ v L, o = .returned v ∧ Q v U'.heap L ∧ FrameEnd U o U' L rm.cells rm.slots)
theorem own_callS {Z : State} {a0 : Array Value} {h : Heap} {rm : Room} {W : Nat} {own : String} {index : Nat} {y : MethodName} {bytes : ByteArray} {maxL : Nat} {ret : Option FieldType} {argsL rest : List Value} {r : Option Value}
    (X : Stand p l e R s m args below meth c T locs cells slots) (hx : p.tables.exec = Jvm.exec) (hZ : Z.Warmed39 s.vm) (hown : s.vm.findClass own = some m.cls)
    (wl : (Jvm.Cond.methodLink own index y).before a0 Z = true) (wst : (Jvm.Cond.static y).before a0 Z = true) (wi : (Jvm.Cond.initialized y.cls).before a0 Z = true) (wc : (Jvm.Cond.code y bytes maxL ret).before a0 Z = true)
    (hy : y.cls ≠ "java/lang/invoke/MethodHandle" ∧ y.cls ≠ "java/lang/invoke/VarHandle") (eT : T.heap = h)
    (hM : Pays l Z y bytes maxL ret rm argsL.toArray h (own_pure r h)) (hrc : rm.cells = 0) (hrs : rm.slots = 0) (hcl : cells ≤ R.cells) (hsl : slots ≤ R.slots) (hf : rm.frames + 1 ≤ R.frames) (hl : W + (maxL + 11) + rm.locals ≤ R.locals)
    (hg : g.method = m) (hsize : g.locals.size = c.maxLocals) (hlen : ∀ sig, parseMethodDescriptor y.desc = some sig → argsL.length = sig.parameters.length)
    (hstack : g.stack = argsL.reverse ++ rest) (hW : 2 * g.monitorRoom + (rest.map fun v => v.category).sum ≤ W) (hdg : decode c.code g.pc = .ok (.invokestatic index, 3)) :
    ∃ T', Stand p l e R s m args below meth c T' locs cells slots ∧ T'.heap = h ∧ ∀ t, Steps p.tables e below (T'.setTop { g with pc := g.pc + 3, stack := r.toList ++ rest }) t → Steps p.tables e below (T.setTop g) t := by
  obtain ⟨v, vm₁, ⟨T1, L1, k1, n1⟩, hw1, X1, ⟨Lc, hQ, l1, y1, z1⟩, st⟩ := Jvm.LawKit.callS X hx (y := y) hown (mvT hZ wl) (mvT hZ wst) (mvT hZ wi) (mvT hZ wc) hy (backOf (W := W) hM hZ wc wi hf hl) hg hsize hlen hstack hW hdg (fun _ _ => ⟨rfl, eT, by rw [hrc]; exact hcl, by rw [hrs]; exact hsl⟩)
  dsimp only [Pt.U, Pt.locs, Pt.cells, Pt.slots] at X1 l1 y1 z1 st hQ
  obtain ⟨rfl, rfl, hh⟩ := hQ
  subst l1 y1 z1
  rw [List.append_nil, hrc, hrs, Nat.add_zero, Nat.add_zero] at X1
  exact ⟨T1, X1, hh, st⟩
theorem own_callV {Z : State} {a0 : Array Value} {h : Heap} {rm : Room} {W : Nat} {own C : String} {index : Nat} {y z : MethodName} {bytes : ByteArray} {maxL : Nat} {ret : Option FieldType} {argsL rest : List Value} {r : Option Value} {b : Addr}
    (X : Stand p l e R s m args below meth c T locs cells slots) (hx : p.tables.exec = Jvm.exec) (hZ : Z.Warmed39 s.vm) (hown : s.vm.findClass own = some m.cls)
    (wl : (Jvm.Cond.methodLink own index y).before a0 Z = true) (wd : (Jvm.Cond.declares y).before a0 Z = true) (wsel : (Jvm.Cond.selects C y z).before a0 Z = true) (hnf : NotFace s y) (win : (Jvm.Cond.instanceMethod z).before a0 Z = true) (wi : (Jvm.Cond.initialized z.cls).before a0 Z = true) (wc : (Jvm.Cond.code z bytes maxL ret).before a0 Z = true)
    (hy : y.cls ≠ "java/lang/invoke/MethodHandle" ∧ y.cls ≠ "java/lang/invoke/VarHandle") (eT : T.heap = h) (E : Exa Z h b C)
    (hM : Pays l Z z bytes maxL ret rm (.ref b :: argsL).toArray h (own_pure r h)) (hrc : rm.cells = 0) (hrs : rm.slots = 0) (hcl : cells ≤ R.cells) (hsl : slots ≤ R.slots) (hf : rm.frames + 1 ≤ R.frames) (hl : W + (maxL + 11) + rm.locals ≤ R.locals)
    (hg : g.method = m) (hsize : g.locals.size = c.maxLocals) (hlen : ∀ sig, parseMethodDescriptor y.desc = some sig → argsL.length = sig.parameters.length)
    (hstack : g.stack = argsL.reverse ++ .ref b :: rest) (hW : 2 * g.monitorRoom + (rest.map fun v => v.category).sum ≤ W) (hdg : decode c.code g.pc = .ok (.invokevirtual index, 3)) :
    ∃ T', Stand p l e R s m args below meth c T' locs cells slots ∧ T'.heap = h ∧ ∀ t, Steps p.tables e below (T'.setTop { g with pc := g.pc + 3, stack := r.toList ++ rest }) t → Steps p.tables e below (T.setTop g) t := by
  obtain ⟨cq, kq, qa, qb, qc⟩ := isOf hZ eT E
  obtain ⟨v, vm₁, ⟨T1, L1, k1, n1⟩, hw1, X1, ⟨Lc, hQ, l1, y1, z1⟩, st⟩ := X.virtualBack hx (y := y) (z := z) hown (mvT hZ wl) (mvT hZ wd) hnf (mvT hZ wsel) (mvT hZ win) hy (backOf (W := W) hM hZ wc wi hf hl) qa qc hg hsize (Steps.refl _) hlen hstack hW hdg (fun _ _ => ⟨rfl, eT, by rw [hrc]; exact hcl, by rw [hrs]; exact hsl⟩)
  dsimp only [Pt.U, Pt.locs, Pt.cells, Pt.slots] at X1 l1 y1 z1 st hQ
  obtain ⟨rfl, rfl, hh⟩ := hQ
  subst l1 y1 z1
  rw [List.append_nil, hrc, hrs, Nat.add_zero, Nat.add_zero] at X1
  exact ⟨T1, X1, hh, fun t k => st.trans k⟩
/-- what a law that makes objects leaves: true, and nothing old written -/
def own_one (n0 : Nat) : Option Value → Heap → List Loc → Prop := fun v h L => v = some (.int 1) ∧ Fr n0 L
theorem own_callI {Z : State} {a0 : Array Value} {h : Heap} {rm : Room} {W : Nat} {own : String} {index : Nat} {y : MethodName} {bytes : ByteArray} {maxL : Nat} {argsL rest : List Value} {a : Addr}
    (X : Stand p l e R s m args below meth c T locs cells slots) (hx : p.tables.exec = Jvm.exec) (hZ : Z.Warmed39 s.vm) (hown : s.vm.findClass own = some m.cls) (hy1 : y.name = "<init>")
    (wl : (Jvm.Cond.methodLink own index y).before a0 Z = true) (win : (Jvm.Cond.instanceMethod y).before a0 Z = true) (wi : (Jvm.Cond.initialized y.cls).before a0 Z = true) (wc : (Jvm.Cond.code y bytes maxL none).before a0 Z = true)
    (hy : y.cls ≠ "java/lang/invoke/MethodHandle" ∧ y.cls ≠ "java/lang/invoke/VarHandle") (eT : T.heap = h)
    (hM : Pays l Z y bytes maxL none rm (.ref a :: argsL).toArray h (own_pure none h)) (hrc : rm.cells = 0) (hrs : rm.slots = 0) (hcl : cells ≤ R.cells) (hsl : slots ≤ R.slots) (hf : rm.frames + 1 ≤ R.frames) (hl : W + (maxL + 11) + rm.locals ≤ R.locals)
    (hg : g.method = m) (hsize : g.locals.size = c.maxLocals) (hlen : ∀ sig, parseMethodDescriptor y.desc = some sig → argsL.length = sig.parameters.length)
    (hstack : g.stack = argsL.reverse ++ .ref a :: rest) (hW : 2 * g.monitorRoom + (rest.map fun v => v.category).sum ≤ W) (hdg : decode c.code g.pc = .ok (.invokespecial index, 3)) :
    ∃ T', Stand p l e R s m args below meth c T' locs cells slots ∧ T'.heap = h ∧ ∀ t, Steps p.tables e below (T'.setTop { g with pc := g.pc + 3, stack := rest }) t → Steps p.tables e below (T.setTop g) t := by
  obtain ⟨v, vm₁, ⟨T1, L1, k1, n1⟩, hw1, X1, ⟨Lc, hQ, l1, y1, z1⟩, st⟩ := X.specialBack hx (y := y) hy1 hown (mvT hZ wl) (mvT hZ win) (mvT hZ wc) hy (backOf (W := W) hM hZ wc wi hf hl) hg hsize (Steps.refl _) hlen hstack hW hdg (fun _ _ => ⟨rfl, eT, by rw [hrc]; exact hcl, by rw [hrs]; exact hsl⟩)
  dsimp only [Pt.U, Pt.locs, Pt.cells, Pt.slots] at X1 l1 y1 z1 st hQ
  obtain ⟨rfl, rfl, hh⟩ := hQ
  subst l1 y1 z1
  rw [List.append_nil, hrc, hrs, Nat.add_zero, Nat.add_zero] at X1
  exact ⟨T1, X1, hh, fun t k => st.trans k⟩
theorem own_eqi {args : Array Value} {first s : State} {o : Option Outcome} {idx : List Nat} {t : Term} {k : Int32} (h : (Jvm.Cond.eq t (Term.int k)).value args first o s idx = some true) : t.eval args first o idx s = some (.int k) := by
  obtain ⟨x, y, e1, e2, k1, k2⟩ := cmp_v (Or.inl h)
  rw [Term.int_eval] at e2
  cases e2
  obtain ⟨z, rfl⟩ := k2
  have h2 : (Jvm.Cond.eq t (Term.int k)).value args first o s idx = some (decide (z = k)) := by simp [Cond.value, e1, Term.int_eval]
  rw [gotT h2 h] at e1
  exact e1
theorem own_ord {args : Array Value} {s : State} {t : Term} {x : Addr} {C n : String} {k : Int32} (ev : t.eval args s none [] s = some (.ref x)) (h : (Jvm.Cond.eq (Term.field t C n "I") (Term.int k)).value args s none s [] = some true) : Fld s s.heap x C n "I" (.int k) :=
  Fld.start ((fld_at ev).symm.trans (own_eqi h))
theorem own_sta_keep {Z : State} {h h' : Heap} {C n d D : String} {v : Value} {a : Addr} (F : Sta Z h C n d v) (K : Keep h h' [a]) (E : Exa Z h a D) : Sta Z h' C n d v := by
  obtain ⟨cf, i, k, f, st, cell, h1, h2, h3, h4, h5, h6, h7⟩ := F
  refine ⟨cf, i, k, f, st, cell, h1, h2, h3, h4, K.2.1 st cell h5 (fun q => ?_), h6, h7⟩
  obtain ⟨cell', k', g1, -, -, g4, -⟩ := E
  cases List.mem_singleton.mp q
  rw [h5] at g1
  cases g1
  rw [h6] at g4
  cases g4
end OwnKit
theorem ef_pk (m : MethodId) (x0 : Int32) : entryFrame m #[(.int x0)] 1 = mkF m 0 #[.val (.int x0)] [] := by first | (simp [entryFrame, mkF, argsToLocals, Value.category]; done) | rfl
theorem pn_0 : plainName "com/example/folioscope/folioscope/image/CompressionIsCcittPinLaw" = true := by first | (simp [plainName, overriddenIn]; done) | decide +kernel
theorem d_pk_0 : decode method_2_code 0 = .ok (.iload_n 0, 1) := by decide +kernel
theorem d_pk_1 : decode method_2_code 1 = .ok (.ifCond .ne 7, 3) := by decide +kernel
theorem d_pk_4 : decode method_2_code 4 = .ok (.getstatic 7, 3) := by decide +kernel
theorem d_pk_7 : decode method_2_code 7 = .ok (.areturn, 1) := by decide +kernel
theorem d_pk_8 : decode method_2_code 8 = .ok (.iload_n 0, 1) := by decide +kernel
theorem d_pk_9 : decode method_2_code 9 = .ok (.iconst 1, 1) := by decide +kernel
theorem d_pk_10 : decode method_2_code 10 = .ok (.if_icmp .ne 7, 3) := by decide +kernel
theorem d_pk_13 : decode method_2_code 13 = .ok (.getstatic 13, 3) := by decide +kernel
theorem d_pk_16 : decode method_2_code 16 = .ok (.areturn, 1) := by decide +kernel
theorem d_pk_17 : decode method_2_code 17 = .ok (.iload_n 0, 1) := by decide +kernel
theorem d_pk_18 : decode method_2_code 18 = .ok (.iconst 2, 1) := by decide +kernel
theorem d_pk_19 : decode method_2_code 19 = .ok (.if_icmp .ne 7, 3) := by decide +kernel
theorem d_pk_22 : decode method_2_code 22 = .ok (.getstatic 16, 3) := by decide +kernel
theorem d_pk_25 : decode method_2_code 25 = .ok (.areturn, 1) := by decide +kernel
theorem d_pk_26 : decode method_2_code 26 = .ok (.iload_n 0, 1) := by decide +kernel
theorem d_pk_27 : decode method_2_code 27 = .ok (.iconst 3, 1) := by decide +kernel
theorem d_pk_28 : decode method_2_code 28 = .ok (.if_icmp .ne 7, 3) := by decide +kernel
theorem d_pk_31 : decode method_2_code 31 = .ok (.getstatic 19, 3) := by decide +kernel
theorem d_pk_34 : decode method_2_code 34 = .ok (.areturn, 1) := by decide +kernel
theorem d_pk_35 : decode method_2_code 35 = .ok (.iload_n 0, 1) := by decide +kernel
theorem d_pk_36 : decode method_2_code 36 = .ok (.iconst 4, 1) := by decide +kernel
theorem d_pk_37 : decode method_2_code 37 = .ok (.if_icmp .ne 7, 3) := by decide +kernel
theorem d_pk_40 : decode method_2_code 40 = .ok (.getstatic 22, 3) := by decide +kernel
theorem d_pk_43 : decode method_2_code 43 = .ok (.areturn, 1) := by decide +kernel
theorem d_pk_44 : decode method_2_code 44 = .ok (.iload_n 0, 1) := by decide +kernel
theorem d_pk_45 : decode method_2_code 45 = .ok (.iconst 5, 1) := by decide +kernel
theorem d_pk_46 : decode method_2_code 46 = .ok (.if_icmp .ne 7, 3) := by decide +kernel
theorem d_pk_49 : decode method_2_code 49 = .ok (.getstatic 25, 3) := by decide +kernel
theorem d_pk_52 : decode method_2_code 52 = .ok (.areturn, 1) := by decide +kernel
theorem d_pk_53 : decode method_2_code 53 = .ok (.iload_n 0, 1) := by decide +kernel
theorem d_pk_54 : decode method_2_code 54 = .ok (.bipush 6, 2) := by decide +kernel
theorem d_pk_56 : decode method_2_code 56 = .ok (.if_icmp .ne 7, 3) := by decide +kernel
theorem d_pk_59 : decode method_2_code 59 = .ok (.getstatic 28, 3) := by decide +kernel
theorem d_pk_62 : decode method_2_code 62 = .ok (.areturn, 1) := by decide +kernel
theorem d_pk_63 : decode method_2_code 63 = .ok (.getstatic 31, 3) := by decide +kernel
theorem d_pk_66 : decode method_2_code 66 = .ok (.areturn, 1) := by decide +kernel
theorem ef_cc (m : MethodId) (x0 : Addr) : entryFrame m #[(.ref x0)] 1 = mkF m 0 #[.val (.ref x0)] [] := by first | (simp [entryFrame, mkF, argsToLocals, Value.category]; done) | rfl
theorem pn_1 : plainName "com/example/folioscope/folioscope/image/SegmentData$Compression" = true := by first | (simp [plainName, overriddenIn]; done) | decide +kernel
theorem d_cc_0 : decode prog_74_method_5_code 0 = .ok (.aload_n 0, 1) := by decide +kernel
theorem d_cc_1 : decode prog_74_method_5_code 1 = .ok (.getstatic 18, 3) := by decide +kernel
theorem d_cc_4 : decode prog_74_method_5_code 4 = .ok (.if_acmp .eq 24, 3) := by decide +kernel
theorem d_cc_28 : decode prog_74_method_5_code 28 = .ok (.iconst 1, 1) := by decide +kernel
theorem d_cc_29 : decode prog_74_method_5_code 29 = .ok (.goto 4, 3) := by decide +kernel
theorem d_cc_33 : decode prog_74_method_5_code 33 = .ok (.ireturn, 1) := by decide +kernel
theorem d_cc_7 : decode prog_74_method_5_code 7 = .ok (.aload_n 0, 1) := by decide +kernel
theorem d_cc_8 : decode prog_74_method_5_code 8 = .ok (.getstatic 21, 3) := by decide +kernel
theorem d_cc_11 : decode prog_74_method_5_code 11 = .ok (.if_acmp .eq 17, 3) := by decide +kernel
theorem d_cc_14 : decode prog_74_method_5_code 14 = .ok (.aload_n 0, 1) := by decide +kernel
theorem d_cc_15 : decode prog_74_method_5_code 15 = .ok (.getstatic 24, 3) := by decide +kernel
theorem d_cc_18 : decode prog_74_method_5_code 18 = .ok (.if_acmp .eq 10, 3) := by decide +kernel
theorem d_cc_21 : decode prog_74_method_5_code 21 = .ok (.aload_n 0, 1) := by decide +kernel
theorem d_cc_22 : decode prog_74_method_5_code 22 = .ok (.getstatic 27, 3) := by decide +kernel
theorem d_cc_25 : decode prog_74_method_5_code 25 = .ok (.if_acmp .ne 7, 3) := by decide +kernel
theorem d_cc_32 : decode prog_74_method_5_code 32 = .ok (.iconst 0, 1) := by decide +kernel
theorem ef_ex (m : MethodId) (x0 : Int32) : entryFrame m #[(.int x0)] 1 = mkF m 0 #[.val (.int x0)] [] := by first | (simp [entryFrame, mkF, argsToLocals, Value.category]; done) | rfl
theorem d_ex_0 : decode method_3_code 0 = .ok (.iload_n 0, 1) := by decide +kernel
theorem d_ex_1 : decode method_3_code 1 = .ok (.ifCond .ne 5, 3) := by decide +kernel
theorem d_ex_4 : decode method_3_code 4 = .ok (.iconst 0, 1) := by decide +kernel
theorem d_ex_5 : decode method_3_code 5 = .ok (.ireturn, 1) := by decide +kernel
theorem d_ex_6 : decode method_3_code 6 = .ok (.iload_n 0, 1) := by decide +kernel
theorem d_ex_7 : decode method_3_code 7 = .ok (.iconst 1, 1) := by decide +kernel
theorem d_ex_8 : decode method_3_code 8 = .ok (.if_icmp .ne 5, 3) := by decide +kernel
theorem d_ex_11 : decode method_3_code 11 = .ok (.iconst 0, 1) := by decide +kernel
theorem d_ex_12 : decode method_3_code 12 = .ok (.ireturn, 1) := by decide +kernel
theorem d_ex_13 : decode method_3_code 13 = .ok (.iload_n 0, 1) := by decide +kernel
theorem d_ex_14 : decode method_3_code 14 = .ok (.iconst 2, 1) := by decide +kernel
theorem d_ex_15 : decode method_3_code 15 = .ok (.if_icmp .ne 5, 3) := by decide +kernel
theorem d_ex_18 : decode method_3_code 18 = .ok (.iconst 0, 1) := by decide +kernel
theorem d_ex_19 : decode method_3_code 19 = .ok (.ireturn, 1) := by decide +kernel
theorem d_ex_20 : decode method_3_code 20 = .ok (.iload_n 0, 1) := by decide +kernel
theorem d_ex_21 : decode method_3_code 21 = .ok (.iconst 3, 1) := by decide +kernel
theorem d_ex_22 : decode method_3_code 22 = .ok (.if_icmp .ne 5, 3) := by decide +kernel
theorem d_ex_25 : decode method_3_code 25 = .ok (.iconst 0, 1) := by decide +kernel
theorem d_ex_26 : decode method_3_code 26 = .ok (.ireturn, 1) := by decide +kernel
theorem d_ex_27 : decode method_3_code 27 = .ok (.iload_n 0, 1) := by decide +kernel
theorem d_ex_28 : decode method_3_code 28 = .ok (.iconst 4, 1) := by decide +kernel
theorem d_ex_29 : decode method_3_code 29 = .ok (.if_icmp .ne 5, 3) := by decide +kernel
theorem d_ex_32 : decode method_3_code 32 = .ok (.iconst 1, 1) := by decide +kernel
theorem d_ex_33 : decode method_3_code 33 = .ok (.ireturn, 1) := by decide +kernel
theorem d_ex_34 : decode method_3_code 34 = .ok (.iload_n 0, 1) := by decide +kernel
theorem d_ex_35 : decode method_3_code 35 = .ok (.iconst 5, 1) := by decide +kernel
theorem d_ex_36 : decode method_3_code 36 = .ok (.if_icmp .ne 5, 3) := by decide +kernel
theorem d_ex_39 : decode method_3_code 39 = .ok (.iconst 1, 1) := by decide +kernel
theorem d_ex_40 : decode method_3_code 40 = .ok (.ireturn, 1) := by decide +kernel
theorem d_ex_41 : decode method_3_code 41 = .ok (.iload_n 0, 1) := by decide +kernel
theorem d_ex_42 : decode method_3_code 42 = .ok (.bipush 6, 2) := by decide +kernel
theorem d_ex_44 : decode method_3_code 44 = .ok (.if_icmp .ne 5, 3) := by decide +kernel
theorem d_ex_47 : decode method_3_code 47 = .ok (.iconst 1, 1) := by decide +kernel
theorem d_ex_48 : decode method_3_code 48 = .ok (.ireturn, 1) := by decide +kernel
theorem d_ex_49 : decode method_3_code 49 = .ok (.iconst 1, 1) := by decide +kernel
theorem d_ex_50 : decode method_3_code 50 = .ok (.ireturn, 1) := by decide +kernel
theorem ef_law (m : MethodId) (x0 : Int32) : entryFrame m #[(.int x0)] maxLocals = mkF m 0 #[.val (.int x0), .unset, .unset] [] := by first | (simp [entryFrame, mkF, argsToLocals, Value.category, maxLocals]; done) | rfl
theorem pd_0 : parseMethodDescriptor "(I)Lcom/example/folioscope/folioscope/image/SegmentData$Compression;" = some ⟨[.int], some (.object "com/example/folioscope/folioscope/image/SegmentData$Compression")⟩ := by decide +kernel
theorem pd_1 : parseMethodDescriptor "()Z" = some ⟨[], some .boolean⟩ := by decide +kernel
theorem pd_2 : parseMethodDescriptor "(I)Z" = some ⟨[.int], some .boolean⟩ := by decide +kernel
def own_pick (k : Int32) (a_k0 a_k1 a_k2 a_k3 a_k4 a_k5 a_k6 a_k7 : Addr) : Addr := if k = (0 : Int32) then a_k0 else if k = (1 : Int32) then a_k1 else if k = (2 : Int32) then a_k2 else if k = (3 : Int32) then a_k3 else if k = (4 : Int32) then a_k4 else if k = (5 : Int32) then a_k5 else if k = (6 : Int32) then a_k6 else a_k7
def own_exp (k : Int32) : Int32 := if k = (0 : Int32) then (0 : Int32) else if k = (1 : Int32) then (0 : Int32) else if k = (2 : Int32) then (0 : Int32) else if k = (3 : Int32) then (0 : Int32) else if k = (4 : Int32) then (1 : Int32) else if k = (5 : Int32) then (1 : Int32) else if k = (6 : Int32) then (1 : Int32) else (1 : Int32)
def own_cc (u : Addr) (a_k0 a_k1 a_k2 a_k3 a_k4 a_k5 a_k6 a_k7 : Addr) : Int32 := if u = a_k4 then (1 : Int32) else if u = a_k5 then (1 : Int32) else if u = a_k6 then (1 : Int32) else if u = a_k7 then (1 : Int32) else (0 : Int32)
set_option maxRecDepth 65536 in
set_option maxHeartbeats 40000000 in
theorem rm_pk (l : Launch) (Z : State) (a0 : Array Value) (hw : ∀ d ∈ tables_1, d.before a0 Z = true) (k : Int32) (a_k0 a_k1 a_k2 a_k3 a_k4 a_k5 a_k6 a_k7 : Addr) (h0 : Heap) (S_k0 : Sta Z h0 "com/example/folioscope/folioscope/image/SegmentData$Compression" "NONE" "Lcom/example/folioscope/folioscope/image/SegmentData$Compression;" (.ref a_k0)) (S_k1 : Sta Z h0 "com/example/folioscope/folioscope/image/SegmentData$Compression" "PACK_BITS" "Lcom/example/folioscope/folioscope/image/SegmentData$Compression;" (.ref a_k1)) (S_k2 : Sta Z h0 "com/example/folioscope/folioscope/image/SegmentData$Compression" "LZW" "Lcom/example/folioscope/folioscope/image/SegmentData$Compression;" (.ref a_k2)) (S_k3 : Sta Z h0 "com/example/folioscope/folioscope/image/SegmentData$Compression" "DEFLATE" "Lcom/example/folioscope/folioscope/image/SegmentData$Compression;" (.ref a_k3)) (S_k4 : Sta Z h0 "com/example/folioscope/folioscope/image/SegmentData$Compression" "CCITT_RLE" "Lcom/example/folioscope/folioscope/image/SegmentData$Compression;" (.ref a_k4)) (S_k5 : Sta Z h0 "com/example/folioscope/folioscope/image/SegmentData$Compression" "CCITT_T4" "Lcom/example/folioscope/folioscope/image/SegmentData$Compression;" (.ref a_k5)) (S_k6 : Sta Z h0 "com/example/folioscope/folioscope/image/SegmentData$Compression" "CCITT_T4_2D" "Lcom/example/folioscope/folioscope/image/SegmentData$Compression;" (.ref a_k6)) (S_k7 : Sta Z h0 "com/example/folioscope/folioscope/image/SegmentData$Compression" "CCITT_T6" "Lcom/example/folioscope/folioscope/image/SegmentData$Compression;" (.ref a_k7)) :
    Pays l Z (⟨"com/example/folioscope/folioscope/image/CompressionIsCcittPinLaw", "pick", "(I)Lcom/example/folioscope/folioscope/image/SegmentData$Compression;"⟩ : MethodName) method_2_code 1 (some (.object "com/example/folioscope/folioscope/image/SegmentData$Compression")) ({ frames := 0, cells := 0, slots := 0, locals := 0 } : Room) #[(.int k)] h0 (own_pure (some (.ref (own_pick k a_k0 a_k1 a_k2 a_k3 a_k4 a_k5 a_k6 a_k7))) h0) := by
  refine MetFree.of_bodySF (plainFor_of_name pn_0) hisR ?_
  intro p e s m args below meth c s₁ Bd hml0 hP hK
  obtain ⟨rfl, hZ, hh⟩ := hP
  have hx := Bd.exec
  have hby := Bd.bytes
  have hml : c.maxLocals = 1 := hml0
  have hown : s.vm.findClass "com/example/folioscope/folioscope/image/CompressionIsCcittPinLaw" = some m.cls := findClass_of_methodNamed Bd.named
  have hnm := (name_of_methodNamed Bd.named Bd.method).1
  have hlk : meth.locks = false := BodyLoose.notSynchronized Bd
  have X0 : Stand p l e ({ frames := 0, cells := 0, slots := 0, locals := 0 } : Room) s m #[(.int k)] below meth c s₁ [] 0 0 := Stand.of_body Bd
  have e0 : s₁.heap = h0 := by rw [← hh, Bd.state]; rfl
  show Goes p e below s (own_pure (some (.ref (own_pick k a_k0 a_k1 a_k2 a_k3 a_k4 a_k5 a_k6 a_k7))) h0) ({ frames := 0, cells := 0, slots := 0, locals := 0 } : Room).cells ({ frames := 0, cells := 0, slots := 0, locals := 0 } : Room).slots s₁ (entryFrame m #[(.int k)] 1)
  rw [ef_pk m k]
  refine own_go (T' := s₁) (g' := (mkF m 1 #[.val (.int k)] [(.int k)])) (fun t_ K => XS.iloadN X0.here hx rfl (hb hby d_pk_0) rfl K) ?_
  by_cases c1 : k = (0 : Int32)
  · refine own_go (T' := s₁) (g' := (mkF m 4 #[.val (.int k)] [])) (fun t_ K => XS.ifNo X0.here hx rfl (hb hby d_pk_1) rfl ((if0 _ _).trans (teq c1).2) K) ?_
    obtain ⟨T1, X1, e1, st1⟩ := getS2 X0 hx hZ hown (host := "") (Or.inl (hw _ (List.mem_of_getElem? (i := 4) rfl))) Via.refl e0 S_k0 (g := (mkF m 4 #[.val (.int k)] [])) rfl (hb hby d_pk_4)
    refine own_go (T' := T1) (g' := (mkF m 7 #[.val (.int k)] [(.ref a_k0)])) (fun t_ K => st1 _ K) ?_
    exact own_retA X1 hx Bd.returns rfl hlk rfl (hb hby d_pk_7) ⟨by rw [own_pick, if_pos c1], rfl, e1⟩ (by decide) (by decide)
  · refine own_go (T' := s₁) (g' := (mkF m 8 #[.val (.int k)] [])) (fun t_ K => XS.ifYes X0.here hx rfl (pc0 := 1) (pc' := 8) rfl (hb hby d_pk_1) rfl ((if0 _ _).trans (feq c1).2) (by decide) (by decide) K) ?_
    refine own_go (T' := s₁) (g' := (mkF m 9 #[.val (.int k)] [(.int k)])) (fun t_ K => XS.iloadN X0.here hx rfl (hb hby d_pk_8) rfl K) ?_
    refine own_go (T' := s₁) (g' := (mkF m 10 #[.val (.int k)] [(.int (1 : Int32)), (.int k)])) (fun t_ K => XS.iconst X0.here hx rfl (hb hby d_pk_9) K) ?_
    by_cases c10 : k = (1 : Int32)
    · refine own_go (T' := s₁) (g' := (mkF m 13 #[.val (.int k)] [])) (fun t_ K => XS.icmpNo X0.here hx rfl (hb hby d_pk_10) rfl (teq c10).2 K) ?_
      obtain ⟨T2, X2, e2, st2⟩ := getS2 X0 hx hZ hown (host := "") (Or.inl (hw _ (List.mem_of_getElem? (i := 29) rfl))) Via.refl e0 S_k1 (g := (mkF m 13 #[.val (.int k)] [])) rfl (hb hby d_pk_13)
      refine own_go (T' := T2) (g' := (mkF m 16 #[.val (.int k)] [(.ref a_k1)])) (fun t_ K => st2 _ K) ?_
      exact own_retA X2 hx Bd.returns rfl hlk rfl (hb hby d_pk_16) ⟨by rw [own_pick, if_neg c1, if_pos c10], rfl, e2⟩ (by decide) (by decide)
    · refine own_go (T' := s₁) (g' := (mkF m 17 #[.val (.int k)] [])) (fun t_ K => XS.icmpYes X0.here hx rfl (pc0 := 10) (pc' := 17) rfl (hb hby d_pk_10) rfl (feq c10).2 (by decide) (by decide) K) ?_
      refine own_go (T' := s₁) (g' := (mkF m 18 #[.val (.int k)] [(.int k)])) (fun t_ K => XS.iloadN X0.here hx rfl (hb hby d_pk_17) rfl K) ?_
      refine own_go (T' := s₁) (g' := (mkF m 19 #[.val (.int k)] [(.int (2 : Int32)), (.int k)])) (fun t_ K => XS.iconst X0.here hx rfl (hb hby d_pk_18) K) ?_
      by_cases c19 : k = (2 : Int32)
      · refine own_go (T' := s₁) (g' := (mkF m 22 #[.val (.int k)] [])) (fun t_ K => XS.icmpNo X0.here hx rfl (hb hby d_pk_19) rfl (teq c19).2 K) ?_
        obtain ⟨T3, X3, e3, st3⟩ := getS2 X0 hx hZ hown (host := "") (Or.inl (hw _ (List.mem_of_getElem? (i := 27) rfl))) Via.refl e0 S_k2 (g := (mkF m 22 #[.val (.int k)] [])) rfl (hb hby d_pk_22)
        refine own_go (T' := T3) (g' := (mkF m 25 #[.val (.int k)] [(.ref a_k2)])) (fun t_ K => st3 _ K) ?_
        exact own_retA X3 hx Bd.returns rfl hlk rfl (hb hby d_pk_25) ⟨by rw [own_pick, if_neg c1, if_neg c10, if_pos c19], rfl, e3⟩ (by decide) (by decide)
      · refine own_go (T' := s₁) (g' := (mkF m 26 #[.val (.int k)] [])) (fun t_ K => XS.icmpYes X0.here hx rfl (pc0 := 19) (pc' := 26) rfl (hb hby d_pk_19) rfl (feq c19).2 (by decide) (by decide) K) ?_
        refine own_go (T' := s₁) (g' := (mkF m 27 #[.val (.int k)] [(.int k)])) (fun t_ K => XS.iloadN X0.here hx rfl (hb hby d_pk_26) rfl K) ?_
        refine own_go (T' := s₁) (g' := (mkF m 28 #[.val (.int k)] [(.int (3 : Int32)), (.int k)])) (fun t_ K => XS.iconst X0.here hx rfl (hb hby d_pk_27) K) ?_
        by_cases c28 : k = (3 : Int32)
        · refine own_go (T' := s₁) (g' := (mkF m 31 #[.val (.int k)] [])) (fun t_ K => XS.icmpNo X0.here hx rfl (hb hby d_pk_28) rfl (teq c28).2 K) ?_
          obtain ⟨T4, X4, e4, st4⟩ := getS2 X0 hx hZ hown (host := "") (Or.inl (hw _ (List.mem_of_getElem? (i := 23) rfl))) Via.refl e0 S_k3 (g := (mkF m 31 #[.val (.int k)] [])) rfl (hb hby d_pk_31)
          refine own_go (T' := T4) (g' := (mkF m 34 #[.val (.int k)] [(.ref a_k3)])) (fun t_ K => st4 _ K) ?_
          exact own_retA X4 hx Bd.returns rfl hlk rfl (hb hby d_pk_34) ⟨by rw [own_pick, if_neg c1, if_neg c10, if_neg c19, if_pos c28], rfl, e4⟩ (by decide) (by decide)
        · refine own_go (T' := s₁) (g' := (mkF m 35 #[.val (.int k)] [])) (fun t_ K => XS.icmpYes X0.here hx rfl (pc0 := 28) (pc' := 35) rfl (hb hby d_pk_28) rfl (feq c28).2 (by decide) (by decide) K) ?_
          refine own_go (T' := s₁) (g' := (mkF m 36 #[.val (.int k)] [(.int k)])) (fun t_ K => XS.iloadN X0.here hx rfl (hb hby d_pk_35) rfl K) ?_
          refine own_go (T' := s₁) (g' := (mkF m 37 #[.val (.int k)] [(.int (4 : Int32)), (.int k)])) (fun t_ K => XS.iconst X0.here hx rfl (hb hby d_pk_36) K) ?_
          by_cases c37 : k = (4 : Int32)
          · refine own_go (T' := s₁) (g' := (mkF m 40 #[.val (.int k)] [])) (fun t_ K => XS.icmpNo X0.here hx rfl (hb hby d_pk_37) rfl (teq c37).2 K) ?_
            obtain ⟨T5, X5, e5, st5⟩ := getS2 X0 hx hZ hown (host := "") (Or.inl (hw _ (List.mem_of_getElem? (i := 31) rfl))) Via.refl e0 S_k4 (g := (mkF m 40 #[.val (.int k)] [])) rfl (hb hby d_pk_40)
            refine own_go (T' := T5) (g' := (mkF m 43 #[.val (.int k)] [(.ref a_k4)])) (fun t_ K => st5 _ K) ?_
            exact own_retA X5 hx Bd.returns rfl hlk rfl (hb hby d_pk_43) ⟨by rw [own_pick, if_neg c1, if_neg c10, if_neg c19, if_neg c28, if_pos c37], rfl, e5⟩ (by decide) (by decide)
          · refine own_go (T' := s₁) (g' := (mkF m 44 #[.val (.int k)] [])) (fun t_ K => XS.icmpYes X0.here hx rfl (pc0 := 37) (pc' := 44) rfl (hb hby d_pk_37) rfl (feq c37).2 (by decide) (by decide) K) ?_
            refine own_go (T' := s₁) (g' := (mkF m 45 #[.val (.int k)] [(.int k)])) (fun t_ K => XS.iloadN X0.here hx rfl (hb hby d_pk_44) rfl K) ?_
            refine own_go (T' := s₁) (g' := (mkF m 46 #[.val (.int k)] [(.int (5 : Int32)), (.int k)])) (fun t_ K => XS.iconst X0.here hx rfl (hb hby d_pk_45) K) ?_
            by_cases c46 : k = (5 : Int32)
            · refine own_go (T' := s₁) (g' := (mkF m 49 #[.val (.int k)] [])) (fun t_ K => XS.icmpNo X0.here hx rfl (hb hby d_pk_46) rfl (teq c46).2 K) ?_
              obtain ⟨T6, X6, e6, st6⟩ := getS2 X0 hx hZ hown (host := "") (Or.inl (hw _ (List.mem_of_getElem? (i := 32) rfl))) Via.refl e0 S_k5 (g := (mkF m 49 #[.val (.int k)] [])) rfl (hb hby d_pk_49)
              refine own_go (T' := T6) (g' := (mkF m 52 #[.val (.int k)] [(.ref a_k5)])) (fun t_ K => st6 _ K) ?_
              exact own_retA X6 hx Bd.returns rfl hlk rfl (hb hby d_pk_52) ⟨by rw [own_pick, if_neg c1, if_neg c10, if_neg c19, if_neg c28, if_neg c37, if_pos c46], rfl, e6⟩ (by decide) (by decide)
            · refine own_go (T' := s₁) (g' := (mkF m 53 #[.val (.int k)] [])) (fun t_ K => XS.icmpYes X0.here hx rfl (pc0 := 46) (pc' := 53) rfl (hb hby d_pk_46) rfl (feq c46).2 (by decide) (by decide) K) ?_
              refine own_go (T' := s₁) (g' := (mkF m 54 #[.val (.int k)] [(.int k)])) (fun t_ K => XS.iloadN X0.here hx rfl (hb hby d_pk_53) rfl K) ?_
              refine own_go (T' := s₁) (g' := (mkF m 56 #[.val (.int k)] [(.int (6 : Int32)), (.int k)])) (fun t_ K => XS.bipush X0.here hx rfl (hb hby d_pk_54) K) ?_
              by_cases c56 : k = (6 : Int32)
              · refine own_go (T' := s₁) (g' := (mkF m 59 #[.val (.int k)] [])) (fun t_ K => XS.icmpNo X0.here hx rfl (hb hby d_pk_56) rfl (teq c56).2 K) ?_
                obtain ⟨T7, X7, e7, st7⟩ := getS2 X0 hx hZ hown (host := "") (Or.inl (hw _ (List.mem_of_getElem? (i := 25) rfl))) Via.refl e0 S_k6 (g := (mkF m 59 #[.val (.int k)] [])) rfl (hb hby d_pk_59)
                refine own_go (T' := T7) (g' := (mkF m 62 #[.val (.int k)] [(.ref a_k6)])) (fun t_ K => st7 _ K) ?_
                exact own_retA X7 hx Bd.returns rfl hlk rfl (hb hby d_pk_62) ⟨by rw [own_pick, if_neg c1, if_neg c10, if_neg c19, if_neg c28, if_neg c37, if_neg c46, if_pos c56], rfl, e7⟩ (by decide) (by decide)
              · refine own_go (T' := s₁) (g' := (mkF m 63 #[.val (.int k)] [])) (fun t_ K => XS.icmpYes X0.here hx rfl (pc0 := 56) (pc' := 63) rfl (hb hby d_pk_56) rfl (feq c56).2 (by decide) (by decide) K) ?_
                obtain ⟨T8, X8, e8, st8⟩ := getS2 X0 hx hZ hown (host := "") (Or.inl (hw _ (List.mem_of_getElem? (i := 26) rfl))) Via.refl e0 S_k7 (g := (mkF m 63 #[.val (.int k)] [])) rfl (hb hby d_pk_63)
                refine own_go (T' := T8) (g' := (mkF m 66 #[.val (.int k)] [(.ref a_k7)])) (fun t_ K => st8 _ K) ?_
                exact own_retA X8 hx Bd.returns rfl hlk rfl (hb hby d_pk_66) ⟨by rw [own_pick, if_neg c1, if_neg c10, if_neg c19, if_neg c28, if_neg c37, if_neg c46, if_neg c56], rfl, e8⟩ (by decide) (by decide)
set_option maxRecDepth 65536 in
set_option maxHeartbeats 40000000 in
theorem rm_cc (l : Launch) (Z : State) (a0 : Array Value) (hw : ∀ d ∈ tables_1, d.before a0 Z = true) (u : Addr) (a_k0 a_k1 a_k2 a_k3 a_k4 a_k5 a_k6 a_k7 : Addr) (h0 : Heap) (S_k0 : Sta Z h0 "com/example/folioscope/folioscope/image/SegmentData$Compression" "NONE" "Lcom/example/folioscope/folioscope/image/SegmentData$Compression;" (.ref a_k0)) (S_k1 : Sta Z h0 "com/example/folioscope/folioscope/image/SegmentData$Compression" "PACK_BITS" "Lcom/example/folioscope/folioscope/image/SegmentData$Compression;" (.ref a_k1)) (S_k2 : Sta Z h0 "com/example/folioscope/folioscope/image/SegmentData$Compression" "LZW" "Lcom/example/folioscope/folioscope/image/SegmentData$Compression;" (.ref a_k2)) (S_k3 : Sta Z h0 "com/example/folioscope/folioscope/image/SegmentData$Compression" "DEFLATE" "Lcom/example/folioscope/folioscope/image/SegmentData$Compression;" (.ref a_k3)) (S_k4 : Sta Z h0 "com/example/folioscope/folioscope/image/SegmentData$Compression" "CCITT_RLE" "Lcom/example/folioscope/folioscope/image/SegmentData$Compression;" (.ref a_k4)) (S_k5 : Sta Z h0 "com/example/folioscope/folioscope/image/SegmentData$Compression" "CCITT_T4" "Lcom/example/folioscope/folioscope/image/SegmentData$Compression;" (.ref a_k5)) (S_k6 : Sta Z h0 "com/example/folioscope/folioscope/image/SegmentData$Compression" "CCITT_T4_2D" "Lcom/example/folioscope/folioscope/image/SegmentData$Compression;" (.ref a_k6)) (S_k7 : Sta Z h0 "com/example/folioscope/folioscope/image/SegmentData$Compression" "CCITT_T6" "Lcom/example/folioscope/folioscope/image/SegmentData$Compression;" (.ref a_k7)) :
    Pays l Z (⟨"com/example/folioscope/folioscope/image/SegmentData$Compression", "isCcitt", "()Z"⟩ : MethodName) prog_74_method_5_code 1 (some .boolean) ({ frames := 0, cells := 0, slots := 0, locals := 0 } : Room) #[(.ref u)] h0 (own_pure (some (.int (own_cc u a_k0 a_k1 a_k2 a_k3 a_k4 a_k5 a_k6 a_k7))) h0) := by
  refine MetFree.of_bodySF (plainFor_of_name pn_1) hisR ?_
  intro p e s m args below meth c s₁ Bd hml0 hP hK
  obtain ⟨rfl, hZ, hh⟩ := hP
  have hx := Bd.exec
  have hby := Bd.bytes
  have hml : c.maxLocals = 1 := hml0
  have hown : s.vm.findClass "com/example/folioscope/folioscope/image/SegmentData$Compression" = some m.cls := findClass_of_methodNamed Bd.named
  have hnm := (name_of_methodNamed Bd.named Bd.method).1
  have hlk : meth.locks = false := BodyLoose.notSynchronized Bd
  have X0 : Stand p l e ({ frames := 0, cells := 0, slots := 0, locals := 0 } : Room) s m #[(.ref u)] below meth c s₁ [] 0 0 := Stand.of_body Bd
  have e0 : s₁.heap = h0 := by rw [← hh, Bd.state]; rfl
  show Goes p e below s (own_pure (some (.int (own_cc u a_k0 a_k1 a_k2 a_k3 a_k4 a_k5 a_k6 a_k7))) h0) ({ frames := 0, cells := 0, slots := 0, locals := 0 } : Room).cells ({ frames := 0, cells := 0, slots := 0, locals := 0 } : Room).slots s₁ (entryFrame m #[(.ref u)] 1)
  rw [ef_cc m u]
  refine own_go (T' := s₁) (g' := (mkF m 1 #[.val (.ref u)] [(.ref u)])) (fun t_ K => XS.aloadN X0.here hx rfl (hb hby d_cc_0) rfl rfl K) ?_
  obtain ⟨T1, X1, e1, st1⟩ := getS2 X0 hx hZ hown (host := "") (Or.inl (hw _ (List.mem_of_getElem? (i := 12) rfl))) Via.refl e0 S_k4 (g := (mkF m 1 #[.val (.ref u)] [(.ref u)])) rfl (hb hby d_cc_1)
  refine own_go (T' := T1) (g' := (mkF m 4 #[.val (.ref u)] [(.ref a_k4), (.ref u)])) (fun t_ K => st1 _ K) ?_
  by_cases c4 : u = a_k4
  · refine own_go (T' := T1) (g' := (mkF m 28 #[.val (.ref u)] [])) (fun t_ K => Jvm.RoadKit.acmp (g := (mkF m 4 #[.val (.ref u)] [(.ref a_k4), (.ref u)])) X1 hx rfl rfl rfl (pc0 := 4) (pc' := 28) (same := true) rfl (hb hby d_cc_4) rfl (decide_eq_true (congrArg Value.ref c4)) (by decide) (by decide) K) ?_
    refine own_go (T' := T1) (g' := (mkF m 29 #[.val (.ref u)] [(.int (1 : Int32))])) (fun t_ K => XS.iconst X1.here hx rfl (hb hby d_cc_28) K) ?_
    refine own_go (T' := T1) (g' := (mkF m 33 #[.val (.ref u)] [(.int (1 : Int32))])) (fun t_ K => XS.goto X1.here hx rfl (pc0 := 29) (pc' := 33) rfl (hb hby d_cc_29) (by decide) (by decide) K) ?_
    exact own_retZ X1 hx Bd.returns hlk (Or.inr rfl) (hb hby d_cc_33) ⟨by rw [own_cc, if_pos c4], rfl, e1⟩ (by decide) (by decide)
  · refine own_go (T' := T1) (g' := (mkF m 7 #[.val (.ref u)] [])) (fun t_ K => Jvm.RoadKit.acmp (g := (mkF m 4 #[.val (.ref u)] [(.ref a_k4), (.ref u)])) X1 hx rfl rfl rfl (pc0 := 4) (pc' := 7) (same := false) rfl (hb hby d_cc_4) rfl (decide_eq_false (fun q => c4 (Value.ref.inj q))) (by decide) (by decide) K) ?_
    refine own_go (T' := T1) (g' := (mkF m 8 #[.val (.ref u)] [(.ref u)])) (fun t_ K => XS.aloadN X1.here hx rfl (hb hby d_cc_7) rfl rfl K) ?_
    obtain ⟨T2, X2, e2, st2⟩ := getS2 X1 hx hZ hown (host := "") (Or.inl (hw _ (List.mem_of_getElem? (i := 14) rfl))) Via.refl e1 S_k5 (g := (mkF m 8 #[.val (.ref u)] [(.ref u)])) rfl (hb hby d_cc_8)
    refine own_go (T' := T2) (g' := (mkF m 11 #[.val (.ref u)] [(.ref a_k5), (.ref u)])) (fun t_ K => st2 _ K) ?_
    by_cases c11 : u = a_k5
    · refine own_go (T' := T2) (g' := (mkF m 28 #[.val (.ref u)] [])) (fun t_ K => Jvm.RoadKit.acmp (g := (mkF m 11 #[.val (.ref u)] [(.ref a_k5), (.ref u)])) X2 hx rfl rfl rfl (pc0 := 11) (pc' := 28) (same := true) rfl (hb hby d_cc_11) rfl (decide_eq_true (congrArg Value.ref c11)) (by decide) (by decide) K) ?_
      refine own_go (T' := T2) (g' := (mkF m 29 #[.val (.ref u)] [(.int (1 : Int32))])) (fun t_ K => XS.iconst X2.here hx rfl (hb hby d_cc_28) K) ?_
      refine own_go (T' := T2) (g' := (mkF m 33 #[.val (.ref u)] [(.int (1 : Int32))])) (fun t_ K => XS.goto X2.here hx rfl (pc0 := 29) (pc' := 33) rfl (hb hby d_cc_29) (by decide) (by decide) K) ?_
      exact own_retZ X2 hx Bd.returns hlk (Or.inr rfl) (hb hby d_cc_33) ⟨by rw [own_cc, if_neg c4, if_pos c11], rfl, e2⟩ (by decide) (by decide)
    · refine own_go (T' := T2) (g' := (mkF m 14 #[.val (.ref u)] [])) (fun t_ K => Jvm.RoadKit.acmp (g := (mkF m 11 #[.val (.ref u)] [(.ref a_k5), (.ref u)])) X2 hx rfl rfl rfl (pc0 := 11) (pc' := 14) (same := false) rfl (hb hby d_cc_11) rfl (decide_eq_false (fun q => c11 (Value.ref.inj q))) (by decide) (by decide) K) ?_
      refine own_go (T' := T2) (g' := (mkF m 15 #[.val (.ref u)] [(.ref u)])) (fun t_ K => XS.aloadN X2.here hx rfl (hb hby d_cc_14) rfl rfl K) ?_
      obtain ⟨T3, X3, e3, st3⟩ := getS2 X2 hx hZ hown (host := "") (Or.inl (hw _ (List.mem_of_getElem? (i := 16) rfl))) Via.refl e2 S_k6 (g := (mkF m 15 #[.val (.ref u)] [(.ref u)])) rfl (hb hby d_cc_15)
      refine own_go (T' := T3) (g' := (mkF m 18 #[.val (.ref u)] [(.ref a_k6), (.ref u)])) (fun t_ K => st3 _ K) ?_
      by_cases c18 : u = a_k6
      · refine own_go (T' := T3) (g' := (mkF m 28 #[.val (.ref u)] [])) (fun t_ K => Jvm.RoadKit.acmp (g := (mkF m 18 #[.val (.ref u)] [(.ref a_k6), (.ref u)])) X3 hx rfl rfl rfl (pc0 := 18) (pc' := 28) (same := true) rfl (hb hby d_cc_18) rfl (decide_eq_true (congrArg Value.ref c18)) (by decide) (by decide) K) ?_
        refine own_go (T' := T3) (g' := (mkF m 29 #[.val (.ref u)] [(.int (1 : Int32))])) (fun t_ K => XS.iconst X3.here hx rfl (hb hby d_cc_28) K) ?_
        refine own_go (T' := T3) (g' := (mkF m 33 #[.val (.ref u)] [(.int (1 : Int32))])) (fun t_ K => XS.goto X3.here hx rfl (pc0 := 29) (pc' := 33) rfl (hb hby d_cc_29) (by decide) (by decide) K) ?_
        exact own_retZ X3 hx Bd.returns hlk (Or.inr rfl) (hb hby d_cc_33) ⟨by rw [own_cc, if_neg c4, if_neg c11, if_pos c18], rfl, e3⟩ (by decide) (by decide)
      · refine own_go (T' := T3) (g' := (mkF m 21 #[.val (.ref u)] [])) (fun t_ K => Jvm.RoadKit.acmp (g := (mkF m 18 #[.val (.ref u)] [(.ref a_k6), (.ref u)])) X3 hx rfl rfl rfl (pc0 := 18) (pc' := 21) (same := false) rfl (hb hby d_cc_18) rfl (decide_eq_false (fun q => c18 (Value.ref.inj q))) (by decide) (by decide) K) ?_
        refine own_go (T' := T3) (g' := (mkF m 22 #[.val (.ref u)] [(.ref u)])) (fun t_ K => XS.aloadN X3.here hx rfl (hb hby d_cc_21) rfl rfl K) ?_
        obtain ⟨T4, X4, e4, st4⟩ := getS2 X3 hx hZ hown (host := "") (Or.inl (hw _ (List.mem_of_getElem? (i := 18) rfl))) Via.refl e3 S_k7 (g := (mkF m 22 #[.val (.ref u)] [(.ref u)])) rfl (hb hby d_cc_22)
        refine own_go (T' := T4) (g' := (mkF m 25 #[.val (.ref u)] [(.ref a_k7), (.ref u)])) (fun t_ K => st4 _ K) ?_
        by_cases c25 : u = a_k7
        · refine own_go (T' := T4) (g' := (mkF m 28 #[.val (.ref u)] [])) (fun t_ K => Jvm.RoadKit.acmp (g := (mkF m 25 #[.val (.ref u)] [(.ref a_k7), (.ref u)])) X4 hx rfl rfl rfl (pc0 := 25) (pc' := 28) (same := true) rfl (hb hby d_cc_25) rfl (decide_eq_true (congrArg Value.ref c25)) (by decide) (by decide) K) ?_
          refine own_go (T' := T4) (g' := (mkF m 29 #[.val (.ref u)] [(.int (1 : Int32))])) (fun t_ K => XS.iconst X4.here hx rfl (hb hby d_cc_28) K) ?_
          refine own_go (T' := T4) (g' := (mkF m 33 #[.val (.ref u)] [(.int (1 : Int32))])) (fun t_ K => XS.goto X4.here hx rfl (pc0 := 29) (pc' := 33) rfl (hb hby d_cc_29) (by decide) (by decide) K) ?_
          exact own_retZ X4 hx Bd.returns hlk (Or.inr rfl) (hb hby d_cc_33) ⟨by rw [own_cc, if_neg c4, if_neg c11, if_neg c18, if_pos c25], rfl, e4⟩ (by decide) (by decide)
        · refine own_go (T' := T4) (g' := (mkF m 32 #[.val (.ref u)] [])) (fun t_ K => Jvm.RoadKit.acmp (g := (mkF m 25 #[.val (.ref u)] [(.ref a_k7), (.ref u)])) X4 hx rfl rfl rfl (pc0 := 25) (pc' := 32) (same := false) rfl (hb hby d_cc_25) rfl (decide_eq_false (fun q => c25 (Value.ref.inj q))) (by decide) (by decide) K) ?_
          refine own_go (T' := T4) (g' := (mkF m 33 #[.val (.ref u)] [(.int (0 : Int32))])) (fun t_ K => XS.iconst X4.here hx rfl (hb hby d_cc_32) K) ?_
          exact own_retZ X4 hx Bd.returns hlk (Or.inl rfl) (hb hby d_cc_33) ⟨by rw [own_cc, if_neg c4, if_neg c11, if_neg c18, if_neg c25], rfl, e4⟩ (by decide) (by decide)
set_option maxRecDepth 65536 in
set_option maxHeartbeats 40000000 in
theorem rm_ex (l : Launch) (Z : State) (a0 : Array Value) (hw : ∀ d ∈ tables_1, d.before a0 Z = true) (k : Int32) (h0 : Heap)  :
    Pays l Z (⟨"com/example/folioscope/folioscope/image/CompressionIsCcittPinLaw", "expected", "(I)Z"⟩ : MethodName) method_3_code 1 (some .boolean) ({ frames := 0, cells := 0, slots := 0, locals := 0 } : Room) #[(.int k)] h0 (own_pure (some (.int (own_exp k))) h0) := by
  refine MetFree.of_bodySF (plainFor_of_name pn_0) hisR ?_
  intro p e s m args below meth c s₁ Bd hml0 hP hK
  obtain ⟨rfl, hZ, hh⟩ := hP
  have hx := Bd.exec
  have hby := Bd.bytes
  have hml : c.maxLocals = 1 := hml0
  have hown : s.vm.findClass "com/example/folioscope/folioscope/image/CompressionIsCcittPinLaw" = some m.cls := findClass_of_methodNamed Bd.named
  have hnm := (name_of_methodNamed Bd.named Bd.method).1
  have hlk : meth.locks = false := BodyLoose.notSynchronized Bd
  have X0 : Stand p l e ({ frames := 0, cells := 0, slots := 0, locals := 0 } : Room) s m #[(.int k)] below meth c s₁ [] 0 0 := Stand.of_body Bd
  have e0 : s₁.heap = h0 := by rw [← hh, Bd.state]; rfl
  show Goes p e below s (own_pure (some (.int (own_exp k))) h0) ({ frames := 0, cells := 0, slots := 0, locals := 0 } : Room).cells ({ frames := 0, cells := 0, slots := 0, locals := 0 } : Room).slots s₁ (entryFrame m #[(.int k)] 1)
  rw [ef_ex m k]
  refine own_go (T' := s₁) (g' := (mkF m 1 #[.val (.int k)] [(.int k)])) (fun t_ K => XS.iloadN X0.here hx rfl (hb hby d_ex_0) rfl K) ?_
  by_cases c1 : k = (0 : Int32)
  · refine own_go (T' := s₁) (g' := (mkF m 4 #[.val (.int k)] [])) (fun t_ K => XS.ifNo X0.here hx rfl (hb hby d_ex_1) rfl ((if0 _ _).trans (teq c1).2) K) ?_
    refine own_go (T' := s₁) (g' := (mkF m 5 #[.val (.int k)] [(.int (0 : Int32))])) (fun t_ K => XS.iconst X0.here hx rfl (hb hby d_ex_4) K) ?_
    exact own_retZ X0 hx Bd.returns hlk (Or.inl rfl) (hb hby d_ex_5) ⟨by rw [own_exp, if_pos c1], rfl, e0⟩ (by decide) (by decide)
  · refine own_go (T' := s₁) (g' := (mkF m 6 #[.val (.int k)] [])) (fun t_ K => XS.ifYes X0.here hx rfl (pc0 := 1) (pc' := 6) rfl (hb hby d_ex_1) rfl ((if0 _ _).trans (feq c1).2) (by decide) (by decide) K) ?_
    refine own_go (T' := s₁) (g' := (mkF m 7 #[.val (.int k)] [(.int k)])) (fun t_ K => XS.iloadN X0.here hx rfl (hb hby d_ex_6) rfl K) ?_
    refine own_go (T' := s₁) (g' := (mkF m 8 #[.val (.int k)] [(.int (1 : Int32)), (.int k)])) (fun t_ K => XS.iconst X0.here hx rfl (hb hby d_ex_7) K) ?_
    by_cases c8 : k = (1 : Int32)
    · refine own_go (T' := s₁) (g' := (mkF m 11 #[.val (.int k)] [])) (fun t_ K => XS.icmpNo X0.here hx rfl (hb hby d_ex_8) rfl (teq c8).2 K) ?_
      refine own_go (T' := s₁) (g' := (mkF m 12 #[.val (.int k)] [(.int (0 : Int32))])) (fun t_ K => XS.iconst X0.here hx rfl (hb hby d_ex_11) K) ?_
      exact own_retZ X0 hx Bd.returns hlk (Or.inl rfl) (hb hby d_ex_12) ⟨by rw [own_exp, if_neg c1, if_pos c8], rfl, e0⟩ (by decide) (by decide)
    · refine own_go (T' := s₁) (g' := (mkF m 13 #[.val (.int k)] [])) (fun t_ K => XS.icmpYes X0.here hx rfl (pc0 := 8) (pc' := 13) rfl (hb hby d_ex_8) rfl (feq c8).2 (by decide) (by decide) K) ?_
      refine own_go (T' := s₁) (g' := (mkF m 14 #[.val (.int k)] [(.int k)])) (fun t_ K => XS.iloadN X0.here hx rfl (hb hby d_ex_13) rfl K) ?_
      refine own_go (T' := s₁) (g' := (mkF m 15 #[.val (.int k)] [(.int (2 : Int32)), (.int k)])) (fun t_ K => XS.iconst X0.here hx rfl (hb hby d_ex_14) K) ?_
      by_cases c15 : k = (2 : Int32)
      · refine own_go (T' := s₁) (g' := (mkF m 18 #[.val (.int k)] [])) (fun t_ K => XS.icmpNo X0.here hx rfl (hb hby d_ex_15) rfl (teq c15).2 K) ?_
        refine own_go (T' := s₁) (g' := (mkF m 19 #[.val (.int k)] [(.int (0 : Int32))])) (fun t_ K => XS.iconst X0.here hx rfl (hb hby d_ex_18) K) ?_
        exact own_retZ X0 hx Bd.returns hlk (Or.inl rfl) (hb hby d_ex_19) ⟨by rw [own_exp, if_neg c1, if_neg c8, if_pos c15], rfl, e0⟩ (by decide) (by decide)
      · refine own_go (T' := s₁) (g' := (mkF m 20 #[.val (.int k)] [])) (fun t_ K => XS.icmpYes X0.here hx rfl (pc0 := 15) (pc' := 20) rfl (hb hby d_ex_15) rfl (feq c15).2 (by decide) (by decide) K) ?_
        refine own_go (T' := s₁) (g' := (mkF m 21 #[.val (.int k)] [(.int k)])) (fun t_ K => XS.iloadN X0.here hx rfl (hb hby d_ex_20) rfl K) ?_
        refine own_go (T' := s₁) (g' := (mkF m 22 #[.val (.int k)] [(.int (3 : Int32)), (.int k)])) (fun t_ K => XS.iconst X0.here hx rfl (hb hby d_ex_21) K) ?_
        by_cases c22 : k = (3 : Int32)
        · refine own_go (T' := s₁) (g' := (mkF m 25 #[.val (.int k)] [])) (fun t_ K => XS.icmpNo X0.here hx rfl (hb hby d_ex_22) rfl (teq c22).2 K) ?_
          refine own_go (T' := s₁) (g' := (mkF m 26 #[.val (.int k)] [(.int (0 : Int32))])) (fun t_ K => XS.iconst X0.here hx rfl (hb hby d_ex_25) K) ?_
          exact own_retZ X0 hx Bd.returns hlk (Or.inl rfl) (hb hby d_ex_26) ⟨by rw [own_exp, if_neg c1, if_neg c8, if_neg c15, if_pos c22], rfl, e0⟩ (by decide) (by decide)
        · refine own_go (T' := s₁) (g' := (mkF m 27 #[.val (.int k)] [])) (fun t_ K => XS.icmpYes X0.here hx rfl (pc0 := 22) (pc' := 27) rfl (hb hby d_ex_22) rfl (feq c22).2 (by decide) (by decide) K) ?_
          refine own_go (T' := s₁) (g' := (mkF m 28 #[.val (.int k)] [(.int k)])) (fun t_ K => XS.iloadN X0.here hx rfl (hb hby d_ex_27) rfl K) ?_
          refine own_go (T' := s₁) (g' := (mkF m 29 #[.val (.int k)] [(.int (4 : Int32)), (.int k)])) (fun t_ K => XS.iconst X0.here hx rfl (hb hby d_ex_28) K) ?_
          by_cases c29 : k = (4 : Int32)
          · refine own_go (T' := s₁) (g' := (mkF m 32 #[.val (.int k)] [])) (fun t_ K => XS.icmpNo X0.here hx rfl (hb hby d_ex_29) rfl (teq c29).2 K) ?_
            refine own_go (T' := s₁) (g' := (mkF m 33 #[.val (.int k)] [(.int (1 : Int32))])) (fun t_ K => XS.iconst X0.here hx rfl (hb hby d_ex_32) K) ?_
            exact own_retZ X0 hx Bd.returns hlk (Or.inr rfl) (hb hby d_ex_33) ⟨by rw [own_exp, if_neg c1, if_neg c8, if_neg c15, if_neg c22, if_pos c29], rfl, e0⟩ (by decide) (by decide)
          · refine own_go (T' := s₁) (g' := (mkF m 34 #[.val (.int k)] [])) (fun t_ K => XS.icmpYes X0.here hx rfl (pc0 := 29) (pc' := 34) rfl (hb hby d_ex_29) rfl (feq c29).2 (by decide) (by decide) K) ?_
            refine own_go (T' := s₁) (g' := (mkF m 35 #[.val (.int k)] [(.int k)])) (fun t_ K => XS.iloadN X0.here hx rfl (hb hby d_ex_34) rfl K) ?_
            refine own_go (T' := s₁) (g' := (mkF m 36 #[.val (.int k)] [(.int (5 : Int32)), (.int k)])) (fun t_ K => XS.iconst X0.here hx rfl (hb hby d_ex_35) K) ?_
            by_cases c36 : k = (5 : Int32)
            · refine own_go (T' := s₁) (g' := (mkF m 39 #[.val (.int k)] [])) (fun t_ K => XS.icmpNo X0.here hx rfl (hb hby d_ex_36) rfl (teq c36).2 K) ?_
              refine own_go (T' := s₁) (g' := (mkF m 40 #[.val (.int k)] [(.int (1 : Int32))])) (fun t_ K => XS.iconst X0.here hx rfl (hb hby d_ex_39) K) ?_
              exact own_retZ X0 hx Bd.returns hlk (Or.inr rfl) (hb hby d_ex_40) ⟨by rw [own_exp, if_neg c1, if_neg c8, if_neg c15, if_neg c22, if_neg c29, if_pos c36], rfl, e0⟩ (by decide) (by decide)
            · refine own_go (T' := s₁) (g' := (mkF m 41 #[.val (.int k)] [])) (fun t_ K => XS.icmpYes X0.here hx rfl (pc0 := 36) (pc' := 41) rfl (hb hby d_ex_36) rfl (feq c36).2 (by decide) (by decide) K) ?_
              refine own_go (T' := s₁) (g' := (mkF m 42 #[.val (.int k)] [(.int k)])) (fun t_ K => XS.iloadN X0.here hx rfl (hb hby d_ex_41) rfl K) ?_
              refine own_go (T' := s₁) (g' := (mkF m 44 #[.val (.int k)] [(.int (6 : Int32)), (.int k)])) (fun t_ K => XS.bipush X0.here hx rfl (hb hby d_ex_42) K) ?_
              by_cases c44 : k = (6 : Int32)
              · refine own_go (T' := s₁) (g' := (mkF m 47 #[.val (.int k)] [])) (fun t_ K => XS.icmpNo X0.here hx rfl (hb hby d_ex_44) rfl (teq c44).2 K) ?_
                refine own_go (T' := s₁) (g' := (mkF m 48 #[.val (.int k)] [(.int (1 : Int32))])) (fun t_ K => XS.iconst X0.here hx rfl (hb hby d_ex_47) K) ?_
                exact own_retZ X0 hx Bd.returns hlk (Or.inr rfl) (hb hby d_ex_48) ⟨by rw [own_exp, if_neg c1, if_neg c8, if_neg c15, if_neg c22, if_neg c29, if_neg c36, if_pos c44], rfl, e0⟩ (by decide) (by decide)
              · refine own_go (T' := s₁) (g' := (mkF m 49 #[.val (.int k)] [])) (fun t_ K => XS.icmpYes X0.here hx rfl (pc0 := 44) (pc' := 49) rfl (hb hby d_ex_44) rfl (feq c44).2 (by decide) (by decide) K) ?_
                refine own_go (T' := s₁) (g' := (mkF m 50 #[.val (.int k)] [(.int (1 : Int32))])) (fun t_ K => XS.iconst X0.here hx rfl (hb hby d_ex_49) K) ?_
                exact own_retZ X0 hx Bd.returns hlk (Or.inr rfl) (hb hby d_ex_50) ⟨by rw [own_exp, if_neg c1, if_neg c8, if_neg c15, if_neg c22, if_neg c29, if_neg c36, if_neg c44], rfl, e0⟩ (by decide) (by decide)
theorem own_or8 (x : Int32) : (x &&& (7 : Int32)) = 0 ∨ (x &&& (7 : Int32)) = 1 ∨ (x &&& (7 : Int32)) = 2 ∨ (x &&& (7 : Int32)) = 3 ∨ (x &&& (7 : Int32)) = 4 ∨ (x &&& (7 : Int32)) = 5 ∨ (x &&& (7 : Int32)) = 6 ∨ (x &&& (7 : Int32)) = 7 := by
  have e : (x &&& (7 : Int32)).toInt = x.toInt % 2 ^ 3 := Jvm.Kit.i32_mask x 7 (k := 3) (by decide) (by decide)
  have h : (x &&& (7 : Int32)).toInt = 0 ∨ (x &&& (7 : Int32)).toInt = 1 ∨ (x &&& (7 : Int32)).toInt = 2 ∨ (x &&& (7 : Int32)).toInt = 3 ∨ (x &&& (7 : Int32)).toInt = 4 ∨ (x &&& (7 : Int32)).toInt = 5 ∨ (x &&& (7 : Int32)).toInt = 6 ∨ (x &&& (7 : Int32)).toInt = 7 := by omega
  rcases h with h | h | h | h | h | h | h | h
  · exact Or.inl (Int32.toInt_inj.mp (by rw [h]; decide))
  · exact Or.inr (Or.inl (Int32.toInt_inj.mp (by rw [h]; decide)))
  · exact Or.inr (Or.inr (Or.inl (Int32.toInt_inj.mp (by rw [h]; decide))))
  · exact Or.inr (Or.inr (Or.inr (Or.inl (Int32.toInt_inj.mp (by rw [h]; decide)))))
  · exact Or.inr (Or.inr (Or.inr (Or.inr (Or.inl (Int32.toInt_inj.mp (by rw [h]; decide))))))
  · exact Or.inr (Or.inr (Or.inr (Or.inr (Or.inr (Or.inl (Int32.toInt_inj.mp (by rw [h]; decide)))))))
  · exact Or.inr (Or.inr (Or.inr (Or.inr (Or.inr (Or.inr (Or.inl (Int32.toInt_inj.mp (by rw [h]; decide))))))))
  · exact Or.inr (Or.inr (Or.inr (Or.inr (Or.inr (Or.inr (Or.inr ((Int32.toInt_inj.mp (by rw [h]; decide)))))))))
theorem own_p0 (a_k0 a_k1 a_k2 a_k3 a_k4 a_k5 a_k6 a_k7 : Addr) : own_pick 0 a_k0 a_k1 a_k2 a_k3 a_k4 a_k5 a_k6 a_k7 = a_k0 := rfl
theorem own_p1 (a_k0 a_k1 a_k2 a_k3 a_k4 a_k5 a_k6 a_k7 : Addr) : own_pick 1 a_k0 a_k1 a_k2 a_k3 a_k4 a_k5 a_k6 a_k7 = a_k1 := rfl
theorem own_p2 (a_k0 a_k1 a_k2 a_k3 a_k4 a_k5 a_k6 a_k7 : Addr) : own_pick 2 a_k0 a_k1 a_k2 a_k3 a_k4 a_k5 a_k6 a_k7 = a_k2 := rfl
theorem own_p3 (a_k0 a_k1 a_k2 a_k3 a_k4 a_k5 a_k6 a_k7 : Addr) : own_pick 3 a_k0 a_k1 a_k2 a_k3 a_k4 a_k5 a_k6 a_k7 = a_k3 := rfl
theorem own_p4 (a_k0 a_k1 a_k2 a_k3 a_k4 a_k5 a_k6 a_k7 : Addr) : own_pick 4 a_k0 a_k1 a_k2 a_k3 a_k4 a_k5 a_k6 a_k7 = a_k4 := rfl
theorem own_p5 (a_k0 a_k1 a_k2 a_k3 a_k4 a_k5 a_k6 a_k7 : Addr) : own_pick 5 a_k0 a_k1 a_k2 a_k3 a_k4 a_k5 a_k6 a_k7 = a_k5 := rfl
theorem own_p6 (a_k0 a_k1 a_k2 a_k3 a_k4 a_k5 a_k6 a_k7 : Addr) : own_pick 6 a_k0 a_k1 a_k2 a_k3 a_k4 a_k5 a_k6 a_k7 = a_k6 := rfl
theorem own_p7 (a_k0 a_k1 a_k2 a_k3 a_k4 a_k5 a_k6 a_k7 : Addr) : own_pick 7 a_k0 a_k1 a_k2 a_k3 a_k4 a_k5 a_k6 a_k7 = a_k7 := rfl
theorem own_key (a : Int32) (a_k0 a_k1 a_k2 a_k3 a_k4 a_k5 a_k6 a_k7 : Addr) (n_k0_k1 : a_k0 ≠ a_k1) (n_k0_k2 : a_k0 ≠ a_k2) (n_k0_k3 : a_k0 ≠ a_k3) (n_k0_k4 : a_k0 ≠ a_k4) (n_k0_k5 : a_k0 ≠ a_k5) (n_k0_k6 : a_k0 ≠ a_k6) (n_k0_k7 : a_k0 ≠ a_k7) (n_k1_k2 : a_k1 ≠ a_k2) (n_k1_k3 : a_k1 ≠ a_k3) (n_k1_k4 : a_k1 ≠ a_k4) (n_k1_k5 : a_k1 ≠ a_k5) (n_k1_k6 : a_k1 ≠ a_k6) (n_k1_k7 : a_k1 ≠ a_k7) (n_k2_k3 : a_k2 ≠ a_k3) (n_k2_k4 : a_k2 ≠ a_k4) (n_k2_k5 : a_k2 ≠ a_k5) (n_k2_k6 : a_k2 ≠ a_k6) (n_k2_k7 : a_k2 ≠ a_k7) (n_k3_k4 : a_k3 ≠ a_k4) (n_k3_k5 : a_k3 ≠ a_k5) (n_k3_k6 : a_k3 ≠ a_k6) (n_k3_k7 : a_k3 ≠ a_k7) (n_k4_k5 : a_k4 ≠ a_k5) (n_k4_k6 : a_k4 ≠ a_k6) (n_k4_k7 : a_k4 ≠ a_k7) (n_k5_k6 : a_k5 ≠ a_k6) (n_k5_k7 : a_k5 ≠ a_k7) (n_k6_k7 : a_k6 ≠ a_k7) : own_cc (own_pick (a &&& (7 : Int32)) a_k0 a_k1 a_k2 a_k3 a_k4 a_k5 a_k6 a_k7) a_k0 a_k1 a_k2 a_k3 a_k4 a_k5 a_k6 a_k7 = own_exp (a &&& (7 : Int32)) := by
  rcases own_or8 a with q | q | q | q | q | q | q | q <;> rw [q] <;> simp only [own_p0, own_p1, own_p2, own_p3, own_p4, own_p5, own_p6, own_p7, own_cc, if_true, n_k0_k1, n_k0_k2, n_k0_k3, n_k0_k4, n_k0_k5, n_k0_k6, n_k0_k7, n_k1_k2, n_k1_k3, n_k1_k4, n_k1_k5, n_k1_k6, n_k1_k7, n_k2_k3, n_k2_k4, n_k2_k5, n_k2_k6, n_k2_k7, n_k3_k4, n_k3_k5, n_k3_k6, n_k3_k7, n_k4_k5, n_k4_k6, n_k4_k7, n_k5_k6, n_k5_k7, n_k6_k7, n_k0_k1.symm, n_k0_k2.symm, n_k0_k3.symm, n_k0_k4.symm, n_k0_k5.symm, n_k0_k6.symm, n_k0_k7.symm, n_k1_k2.symm, n_k1_k3.symm, n_k1_k4.symm, n_k1_k5.symm, n_k1_k6.symm, n_k1_k7.symm, n_k2_k3.symm, n_k2_k4.symm, n_k2_k5.symm, n_k2_k6.symm, n_k2_k7.symm, n_k3_k4.symm, n_k3_k5.symm, n_k3_k6.symm, n_k3_k7.symm, n_k4_k5.symm, n_k4_k6.symm, n_k4_k7.symm, n_k5_k6.symm, n_k5_k7.symm, n_k6_k7.symm, if_false] <;> decide
theorem own_exa {Z : State} {h : Heap} {k : Int32} {a_k0 a_k1 a_k2 a_k3 a_k4 a_k5 a_k6 a_k7 : Addr} {C : String} (e0 : Exa Z h a_k0 C) (e1 : Exa Z h a_k1 C) (e2 : Exa Z h a_k2 C) (e3 : Exa Z h a_k3 C) (e4 : Exa Z h a_k4 C) (e5 : Exa Z h a_k5 C) (e6 : Exa Z h a_k6 C) (e7 : Exa Z h a_k7 C) : Exa Z h (own_pick k a_k0 a_k1 a_k2 a_k3 a_k4 a_k5 a_k6 a_k7) C := by
  rw [own_pick]
  repeat' split
  all_goals assumption
set_option maxRecDepth 65536 in
set_option maxHeartbeats 40000000 in
theorem rm_law (l : Launch) (Z : State) (a0 : Array Value) (hw : ∀ d ∈ tables_1, d.before a0 Z = true) (ws : List Jvm.Cond) (xa : Int32) (a_k0 a_k1 a_k2 a_k3 a_k4 a_k5 a_k6 a_k7 : Addr) (h0 : Heap) (S_k0 : Sta Z h0 "com/example/folioscope/folioscope/image/SegmentData$Compression" "NONE" "Lcom/example/folioscope/folioscope/image/SegmentData$Compression;" (.ref a_k0)) (S_k1 : Sta Z h0 "com/example/folioscope/folioscope/image/SegmentData$Compression" "PACK_BITS" "Lcom/example/folioscope/folioscope/image/SegmentData$Compression;" (.ref a_k1)) (S_k2 : Sta Z h0 "com/example/folioscope/folioscope/image/SegmentData$Compression" "LZW" "Lcom/example/folioscope/folioscope/image/SegmentData$Compression;" (.ref a_k2)) (S_k3 : Sta Z h0 "com/example/folioscope/folioscope/image/SegmentData$Compression" "DEFLATE" "Lcom/example/folioscope/folioscope/image/SegmentData$Compression;" (.ref a_k3)) (S_k4 : Sta Z h0 "com/example/folioscope/folioscope/image/SegmentData$Compression" "CCITT_RLE" "Lcom/example/folioscope/folioscope/image/SegmentData$Compression;" (.ref a_k4)) (S_k5 : Sta Z h0 "com/example/folioscope/folioscope/image/SegmentData$Compression" "CCITT_T4" "Lcom/example/folioscope/folioscope/image/SegmentData$Compression;" (.ref a_k5)) (S_k6 : Sta Z h0 "com/example/folioscope/folioscope/image/SegmentData$Compression" "CCITT_T4_2D" "Lcom/example/folioscope/folioscope/image/SegmentData$Compression;" (.ref a_k6)) (S_k7 : Sta Z h0 "com/example/folioscope/folioscope/image/SegmentData$Compression" "CCITT_T6" "Lcom/example/folioscope/folioscope/image/SegmentData$Compression;" (.ref a_k7)) (E_k0 : Exa Z h0 a_k0 "com/example/folioscope/folioscope/image/SegmentData$Compression") (E_k1 : Exa Z h0 a_k1 "com/example/folioscope/folioscope/image/SegmentData$Compression") (E_k2 : Exa Z h0 a_k2 "com/example/folioscope/folioscope/image/SegmentData$Compression") (E_k3 : Exa Z h0 a_k3 "com/example/folioscope/folioscope/image/SegmentData$Compression") (E_k4 : Exa Z h0 a_k4 "com/example/folioscope/folioscope/image/SegmentData$Compression") (E_k5 : Exa Z h0 a_k5 "com/example/folioscope/folioscope/image/SegmentData$Compression") (E_k6 : Exa Z h0 a_k6 "com/example/folioscope/folioscope/image/SegmentData$Compression") (E_k7 : Exa Z h0 a_k7 "com/example/folioscope/folioscope/image/SegmentData$Compression") (n_k0_k1 : a_k0 ≠ a_k1) (n_k0_k2 : a_k0 ≠ a_k2) (n_k0_k3 : a_k0 ≠ a_k3) (n_k0_k4 : a_k0 ≠ a_k4) (n_k0_k5 : a_k0 ≠ a_k5) (n_k0_k6 : a_k0 ≠ a_k6) (n_k0_k7 : a_k0 ≠ a_k7) (n_k1_k2 : a_k1 ≠ a_k2) (n_k1_k3 : a_k1 ≠ a_k3) (n_k1_k4 : a_k1 ≠ a_k4) (n_k1_k5 : a_k1 ≠ a_k5) (n_k1_k6 : a_k1 ≠ a_k6) (n_k1_k7 : a_k1 ≠ a_k7) (n_k2_k3 : a_k2 ≠ a_k3) (n_k2_k4 : a_k2 ≠ a_k4) (n_k2_k5 : a_k2 ≠ a_k5) (n_k2_k6 : a_k2 ≠ a_k6) (n_k2_k7 : a_k2 ≠ a_k7) (n_k3_k4 : a_k3 ≠ a_k4) (n_k3_k5 : a_k3 ≠ a_k5) (n_k3_k6 : a_k3 ≠ a_k6) (n_k3_k7 : a_k3 ≠ a_k7) (n_k4_k5 : a_k4 ≠ a_k5) (n_k4_k6 : a_k4 ≠ a_k6) (n_k4_k7 : a_k4 ≠ a_k7) (n_k5_k6 : a_k5 ≠ a_k6) (n_k5_k7 : a_k5 ≠ a_k7) (n_k6_k7 : a_k6 ≠ a_k7) :
    MetFree l x (head1 (Jvm.Cond.code x code maxLocals ret :: ws) room_1) (fun a U => a = #[(.int xa)] ∧ Z.Warmed39 U.vm ∧ U.heap = h0) (fun _ _ _ _ _ => True) (fun _ U o U' => ∃ v L, o = .returned v ∧ (own_pure (some (.int 1)) h0) v U'.heap L ∧ FrameEnd U o U' L 0 0) := by
  refine MetFree.of_bodySF (plainFor_of_name pn_0) hisR ?_
  intro p e s m args below meth c s₁ Bd hml0 hP hK
  obtain ⟨rfl, hZ, hh⟩ := hP
  have hx := Bd.exec
  have hby := Bd.bytes
  have hml : c.maxLocals = 3 := hml0
  have hown : s.vm.findClass "com/example/folioscope/folioscope/image/CompressionIsCcittPinLaw" = some m.cls := findClass_of_methodNamed Bd.named
  have hnm := (name_of_methodNamed Bd.named Bd.method).1
  have hlk : meth.locks = false := BodyLoose.notSynchronized Bd
  have X0 : Stand p l e room_1 s m #[(.int xa)] below meth c s₁ [] 0 0 := Stand.of_body Bd
  have e0 : s₁.heap = h0 := by rw [← hh, Bd.state]; rfl
  show Goes p e below s (own_pure (some (.int 1)) h0) 0 0 s₁ (entryFrame m #[(.int xa)] maxLocals)
  rw [ef_law m xa]
  refine own_go (T' := s₁) (g' := (mkF m 1 #[.val (.int xa), .unset, .unset] [(.int xa)])) (fun t_ K => XS.iloadN X0.here hx rfl (hb hby at_0) rfl K) ?_
  refine own_go (T' := s₁) (g' := (mkF m 3 #[.val (.int xa), .unset, .unset] [(.int (7 : Int32)), (.int xa)])) (fun t_ K => XS.bipush X0.here hx rfl (hb hby at_1) K) ?_
  refine own_go (T' := s₁) (g' := (mkF m 4 #[.val (.int xa), .unset, .unset] [(.int (xa &&& (7 : Int32)))])) (fun t_ K => XS.iand X0.here hx rfl (hb hby at_3) rfl K) ?_
  refine own_go (T' := s₁) (g' := (mkF m 5 #[.val (.int xa), .val (.int (xa &&& (7 : Int32))), .unset] [])) (fun t_ K => XS.istoreN X0.here hx rfl (hb hby at_4) rfl (l' := #[.val (.int xa), .val (.int (xa &&& (7 : Int32))), .unset]) rfl K) ?_
  refine own_go (T' := s₁) (g' := (mkF m 6 #[.val (.int xa), .val (.int (xa &&& (7 : Int32))), .unset] [(.int (xa &&& (7 : Int32)))])) (fun t_ K => XS.iloadN X0.here hx rfl (hb hby at_5) rfl K) ?_
  obtain ⟨T1, X1, e1, st1⟩ := own_callS (W := 0) (rm := { frames := 0, cells := 0, slots := 0, locals := 0 }) X0 hx hZ hown (hw _ (List.mem_of_getElem? (i := 0) rfl)) (hw _ (List.mem_of_getElem? (i := 1) rfl)) (hw _ (List.mem_of_getElem? (i := 2) rfl)) (hw _ (List.mem_of_getElem? (i := 3) rfl)) (by decide) e0 (argsL := [(.int (xa &&& (7 : Int32)))]) (rest := []) (r := some (.ref (own_pick (xa &&& (7 : Int32)) a_k0 a_k1 a_k2 a_k3 a_k4 a_k5 a_k6 a_k7))) (rm_pk l Z a0 hw (xa &&& (7 : Int32)) a_k0 a_k1 a_k2 a_k3 a_k4 a_k5 a_k6 a_k7 h0 S_k0 S_k1 S_k2 S_k3 S_k4 S_k5 S_k6 S_k7) rfl rfl (by decide) (by decide) (by decide) (by decide) (g := (mkF m 6 #[.val (.int xa), .val (.int (xa &&& (7 : Int32))), .unset] [(.int (xa &&& (7 : Int32)))])) rfl (by rw [hml]; rfl) (lenOf pd_0 rfl) rfl (by show 2 * 0 + _ ≤ _; exact Nat.le_of_eq rfl) (hb hby at_6)
  refine own_go (T' := T1) (g' := (mkF m 9 #[.val (.int xa), .val (.int (xa &&& (7 : Int32))), .unset] [(.ref (own_pick (xa &&& (7 : Int32)) a_k0 a_k1 a_k2 a_k3 a_k4 a_k5 a_k6 a_k7))])) (fun t_ K => st1 _ K) ?_
  refine own_go (T' := T1) (g' := (mkF m 10 #[.val (.int xa), .val (.int (xa &&& (7 : Int32))), .val (.ref (own_pick (xa &&& (7 : Int32)) a_k0 a_k1 a_k2 a_k3 a_k4 a_k5 a_k6 a_k7))] [])) (fun t_ K => XS.astoreN X1.here hx rfl (hb hby at_9) rfl rfl (l' := #[.val (.int xa), .val (.int (xa &&& (7 : Int32))), .val (.ref (own_pick (xa &&& (7 : Int32)) a_k0 a_k1 a_k2 a_k3 a_k4 a_k5 a_k6 a_k7))]) rfl K) ?_
  refine own_go (T' := T1) (g' := (mkF m 11 #[.val (.int xa), .val (.int (xa &&& (7 : Int32))), .val (.ref (own_pick (xa &&& (7 : Int32)) a_k0 a_k1 a_k2 a_k3 a_k4 a_k5 a_k6 a_k7))] [(.ref (own_pick (xa &&& (7 : Int32)) a_k0 a_k1 a_k2 a_k3 a_k4 a_k5 a_k6 a_k7))])) (fun t_ K => XS.aloadN X1.here hx rfl (hb hby at_10) rfl rfl K) ?_
  obtain ⟨T2, X2, e2, st2⟩ := own_callV (W := 0) (rm := { frames := 0, cells := 0, slots := 0, locals := 0 }) X1 hx hZ hown (hw _ (List.mem_of_getElem? (i := 7) rfl)) (hw _ (List.mem_of_getElem? (i := 8) rfl)) (hw _ (List.mem_of_getElem? (i := 10) rfl)) (notFace_of_selects (args := #[]) (mvT hZ (hw _ (List.mem_of_getElem? (i := 10) rfl)))) (hw _ (List.mem_of_getElem? (i := 9) rfl)) (hw _ (List.mem_of_getElem? (i := 5) rfl)) (hw _ (List.mem_of_getElem? (i := 11) rfl)) (by decide) e1 (own_exa E_k0 E_k1 E_k2 E_k3 E_k4 E_k5 E_k6 E_k7) (argsL := []) (rest := []) (r := some (.int (own_cc (own_pick (xa &&& (7 : Int32)) a_k0 a_k1 a_k2 a_k3 a_k4 a_k5 a_k6 a_k7) a_k0 a_k1 a_k2 a_k3 a_k4 a_k5 a_k6 a_k7))) (rm_cc l Z a0 hw (own_pick (xa &&& (7 : Int32)) a_k0 a_k1 a_k2 a_k3 a_k4 a_k5 a_k6 a_k7) a_k0 a_k1 a_k2 a_k3 a_k4 a_k5 a_k6 a_k7 h0 S_k0 S_k1 S_k2 S_k3 S_k4 S_k5 S_k6 S_k7) rfl rfl (by decide) (by decide) (by decide) (by decide) (g := (mkF m 11 #[.val (.int xa), .val (.int (xa &&& (7 : Int32))), .val (.ref (own_pick (xa &&& (7 : Int32)) a_k0 a_k1 a_k2 a_k3 a_k4 a_k5 a_k6 a_k7))] [(.ref (own_pick (xa &&& (7 : Int32)) a_k0 a_k1 a_k2 a_k3 a_k4 a_k5 a_k6 a_k7))])) rfl (by rw [hml]; rfl) (lenOf pd_1 rfl) rfl (by show 2 * 0 + _ ≤ _; exact Nat.le_of_eq rfl) (hb hby at_11)
  refine own_go (T' := T2) (g' := (mkF m 14 #[.val (.int xa), .val (.int (xa &&& (7 : Int32))), .val (.ref (own_pick (xa &&& (7 : Int32)) a_k0 a_k1 a_k2 a_k3 a_k4 a_k5 a_k6 a_k7))] [(.int (own_cc (own_pick (xa &&& (7 : Int32)) a_k0 a_k1 a_k2 a_k3 a_k4 a_k5 a_k6 a_k7) a_k0 a_k1 a_k2 a_k3 a_k4 a_k5 a_k6 a_k7))])) (fun t_ K => st2 _ K) ?_
  refine own_go (T' := T2) (g' := (mkF m 15 #[.val (.int xa), .val (.int (xa &&& (7 : Int32))), .val (.ref (own_pick (xa &&& (7 : Int32)) a_k0 a_k1 a_k2 a_k3 a_k4 a_k5 a_k6 a_k7))] [(.int (xa &&& (7 : Int32))), (.int (own_cc (own_pick (xa &&& (7 : Int32)) a_k0 a_k1 a_k2 a_k3 a_k4 a_k5 a_k6 a_k7) a_k0 a_k1 a_k2 a_k3 a_k4 a_k5 a_k6 a_k7))])) (fun t_ K => XS.iloadN X2.here hx rfl (hb hby at_14) rfl K) ?_
  obtain ⟨T3, X3, e3, st3⟩ := own_callS (W := 1) (rm := { frames := 0, cells := 0, slots := 0, locals := 0 }) X2 hx hZ hown (hw _ (List.mem_of_getElem? (i := 20) rfl)) (hw _ (List.mem_of_getElem? (i := 21) rfl)) (hw _ (List.mem_of_getElem? (i := 2) rfl)) (hw _ (List.mem_of_getElem? (i := 22) rfl)) (by decide) e2 (argsL := [(.int (xa &&& (7 : Int32)))]) (rest := [(.int (own_cc (own_pick (xa &&& (7 : Int32)) a_k0 a_k1 a_k2 a_k3 a_k4 a_k5 a_k6 a_k7) a_k0 a_k1 a_k2 a_k3 a_k4 a_k5 a_k6 a_k7))]) (r := some (.int (own_exp (xa &&& (7 : Int32))))) (rm_ex l Z a0 hw (xa &&& (7 : Int32)) h0) rfl rfl (by decide) (by decide) (by decide) (by decide) (g := (mkF m 15 #[.val (.int xa), .val (.int (xa &&& (7 : Int32))), .val (.ref (own_pick (xa &&& (7 : Int32)) a_k0 a_k1 a_k2 a_k3 a_k4 a_k5 a_k6 a_k7))] [(.int (xa &&& (7 : Int32))), (.int (own_cc (own_pick (xa &&& (7 : Int32)) a_k0 a_k1 a_k2 a_k3 a_k4 a_k5 a_k6 a_k7) a_k0 a_k1 a_k2 a_k3 a_k4 a_k5 a_k6 a_k7))])) rfl (by rw [hml]; rfl) (lenOf pd_2 rfl) rfl (by show 2 * 0 + _ ≤ _; exact Nat.le_of_eq rfl) (hb hby at_15)
  refine own_go (T' := T3) (g' := (mkF m 18 #[.val (.int xa), .val (.int (xa &&& (7 : Int32))), .val (.ref (own_pick (xa &&& (7 : Int32)) a_k0 a_k1 a_k2 a_k3 a_k4 a_k5 a_k6 a_k7))] [(.int (own_exp (xa &&& (7 : Int32)))), (.int (own_cc (own_pick (xa &&& (7 : Int32)) a_k0 a_k1 a_k2 a_k3 a_k4 a_k5 a_k6 a_k7) a_k0 a_k1 a_k2 a_k3 a_k4 a_k5 a_k6 a_k7))])) (fun t_ K => st3 _ K) ?_
  refine own_go (T' := T3) (g' := (mkF m 21 #[.val (.int xa), .val (.int (xa &&& (7 : Int32))), .val (.ref (own_pick (xa &&& (7 : Int32)) a_k0 a_k1 a_k2 a_k3 a_k4 a_k5 a_k6 a_k7))] [])) (fun t_ K => XS.icmpNo X3.here hx rfl (hb hby at_18) rfl (teq (own_key xa a_k0 a_k1 a_k2 a_k3 a_k4 a_k5 a_k6 a_k7 n_k0_k1 n_k0_k2 n_k0_k3 n_k0_k4 n_k0_k5 n_k0_k6 n_k0_k7 n_k1_k2 n_k1_k3 n_k1_k4 n_k1_k5 n_k1_k6 n_k1_k7 n_k2_k3 n_k2_k4 n_k2_k5 n_k2_k6 n_k2_k7 n_k3_k4 n_k3_k5 n_k3_k6 n_k3_k7 n_k4_k5 n_k4_k6 n_k4_k7 n_k5_k6 n_k5_k7 n_k6_k7)).2 K) ?_
  refine own_go (T' := T3) (g' := (mkF m 22 #[.val (.int xa), .val (.int (xa &&& (7 : Int32))), .val (.ref (own_pick (xa &&& (7 : Int32)) a_k0 a_k1 a_k2 a_k3 a_k4 a_k5 a_k6 a_k7))] [(.int (1 : Int32))])) (fun t_ K => XS.iconst X3.here hx rfl (hb hby at_21) K) ?_
  refine own_go (T' := T3) (g' := (mkF m 26 #[.val (.int xa), .val (.int (xa &&& (7 : Int32))), .val (.ref (own_pick (xa &&& (7 : Int32)) a_k0 a_k1 a_k2 a_k3 a_k4 a_k5 a_k6 a_k7))] [(.int (1 : Int32))])) (fun t_ K => XS.goto X3.here hx rfl (pc0 := 22) (pc' := 26) rfl (hb hby at_22) (by decide) (by decide) K) ?_
  exact own_retZ X3 hx Bd.returns hlk (Or.inr rfl) (hb hby at_26) ⟨rfl, rfl, e3⟩ (by decide) (by decide)
set_option maxRecDepth 65536 in
set_option maxHeartbeats 40000000 in
theorem comes_1 {Post : Tables → Env → Array Value → State → Outcome → State → Prop} (hpost : ∀ tb e args s v u, (limb_1_1.after args s (.returned v) u = true ∧ limb_1_2.after args s (.returned v) u = true ∧ True) → FrameEnd s (.returned v) u (Jvm.fieldLocs frame_1_writes args s ++ Jvm.arrayLocs frame_1_arrays args s ++ Jvm.staticLocs frame_1_statics s) 0 0 → Post tb e args s (.returned v) u) :
    ArmFor flags0 classFile x code maxLocals ret World_1 tables_1 room_1 Calls_1 rest_1 Pre_1 Post := by
  intro l hfl _ _ p e ha hc hk s m args below hf hA hF happ hP
  obtain ⟨hcalls, hrest, hpre⟩ := hP
  obtain ⟨-, -, -, hnamed, -, -, -, hat⟩ := (Spec.applies_iff hf).mp happ
  obtain ⟨hg, hn⟩ := and_e (Cond.before_iff.mp (show (Jvm.Cond.and given_1 narrow_1).before args s = true from hpre))
  obtain ⟨hcount, hk0⟩ := and_e hg
  obtain ⟨w0, rfl⟩ : ∃ w0 : Value, args = #[w0] := by
    have hs : args.size = 1 := by simpa [Cond.value, given_1] using hcount
    obtain ⟨L⟩ := args
    match L, hs with
    | [w0], _ => exact ⟨w0, rfl⟩
  have hw := fun d (hd : d ∈ tables_1) => atoms_spec (ws := Jvm.Cond.code x code maxLocals ret :: tables_1) hat d (List.mem_cons_of_mem _ hd)
  have hfit : Fit s := fun {y c} hc i hi => by
    obtain ⟨ha, rfl⟩ := Array.getElem?_eq_some_iff.mp hc
    have q := List.all_eq_true.mp ((Array.all_eq_true_iff_forall_mem.mp hF) _ (Array.getElem_mem ha)) i (List.mem_range.mpr hi)
    simpa [Array.getElem?_eq_getElem hi] using q
  obtain ⟨q0, f0⟩ := is_v hk0
  obtain rfl : w0 = (.int q0) := Option.some.inj f0
  obtain ⟨hz0, hn0⟩ := and_e hn
  obtain ⟨hz1, hn1⟩ := and_e hn0
  obtain ⟨hz2, hn2⟩ := and_e hn1
  obtain ⟨hz3, hn3⟩ := and_e hn2
  obtain ⟨hz4, hn4⟩ := and_e hn3
  obtain ⟨hz5, hn5⟩ := and_e hn4
  obtain ⟨hz6, hn6⟩ := and_e hn5
  obtain ⟨hz7, hn7⟩ := and_e hn6
  obtain ⟨hz8, hn8⟩ := and_e hn7
  obtain ⟨hz9, hn9⟩ := and_e hn8
  obtain ⟨hz10, hn10⟩ := and_e hn9
  obtain ⟨hz11, hn11⟩ := and_e hn10
  obtain ⟨hz12, hn12⟩ := and_e hn11
  obtain ⟨hz13, hn13⟩ := and_e hn12
  obtain ⟨hz14, hn14⟩ := and_e hn13
  have hz15 := hn14
  obtain ⟨a_k0, v_k0⟩ := exa_v hz0
  have S_k0 : Sta s s.heap "com/example/folioscope/folioscope/image/SegmentData$Compression" "NONE" "Lcom/example/folioscope/folioscope/image/SegmentData$Compression;" (.ref a_k0) := Sta.start v_k0 (Or.inr ⟨(hw _ (List.mem_of_getElem? (i := 5) rfl)), (hw _ (List.mem_of_getElem? (i := 6) rfl))⟩)
  have E_k0 : Exa s s.heap a_k0 "com/example/folioscope/folioscope/image/SegmentData$Compression" := Exa.start v_k0 hz0
  have O_k0 := own_ord v_k0 hz2
  obtain ⟨a_k1, v_k1⟩ := exa_v hz14
  have S_k1 : Sta s s.heap "com/example/folioscope/folioscope/image/SegmentData$Compression" "PACK_BITS" "Lcom/example/folioscope/folioscope/image/SegmentData$Compression;" (.ref a_k1) := Sta.start v_k1 (Or.inr ⟨(hw _ (List.mem_of_getElem? (i := 5) rfl)), (hw _ (List.mem_of_getElem? (i := 30) rfl))⟩)
  have E_k1 : Exa s s.heap a_k1 "com/example/folioscope/folioscope/image/SegmentData$Compression" := Exa.start v_k1 hz14
  have O_k1 := own_ord v_k1 hz15
  obtain ⟨a_k2, v_k2⟩ := exa_v hz12
  have S_k2 : Sta s s.heap "com/example/folioscope/folioscope/image/SegmentData$Compression" "LZW" "Lcom/example/folioscope/folioscope/image/SegmentData$Compression;" (.ref a_k2) := Sta.start v_k2 (Or.inr ⟨(hw _ (List.mem_of_getElem? (i := 5) rfl)), (hw _ (List.mem_of_getElem? (i := 28) rfl))⟩)
  have E_k2 : Exa s s.heap a_k2 "com/example/folioscope/folioscope/image/SegmentData$Compression" := Exa.start v_k2 hz12
  have O_k2 := own_ord v_k2 hz13
  obtain ⟨a_k3, v_k3⟩ := exa_v hz10
  have S_k3 : Sta s s.heap "com/example/folioscope/folioscope/image/SegmentData$Compression" "DEFLATE" "Lcom/example/folioscope/folioscope/image/SegmentData$Compression;" (.ref a_k3) := Sta.start v_k3 (Or.inr ⟨(hw _ (List.mem_of_getElem? (i := 5) rfl)), (hw _ (List.mem_of_getElem? (i := 24) rfl))⟩)
  have E_k3 : Exa s s.heap a_k3 "com/example/folioscope/folioscope/image/SegmentData$Compression" := Exa.start v_k3 hz10
  have O_k3 := own_ord v_k3 hz11
  obtain ⟨a_k4, v_k4⟩ := exa_v hz1
  have S_k4 : Sta s s.heap "com/example/folioscope/folioscope/image/SegmentData$Compression" "CCITT_RLE" "Lcom/example/folioscope/folioscope/image/SegmentData$Compression;" (.ref a_k4) := Sta.start v_k4 (Or.inr ⟨(hw _ (List.mem_of_getElem? (i := 5) rfl)), (hw _ (List.mem_of_getElem? (i := 13) rfl))⟩)
  have E_k4 : Exa s s.heap a_k4 "com/example/folioscope/folioscope/image/SegmentData$Compression" := Exa.start v_k4 hz1
  have O_k4 := own_ord v_k4 hz3
  obtain ⟨a_k5, v_k5⟩ := exa_v hz4
  have S_k5 : Sta s s.heap "com/example/folioscope/folioscope/image/SegmentData$Compression" "CCITT_T4" "Lcom/example/folioscope/folioscope/image/SegmentData$Compression;" (.ref a_k5) := Sta.start v_k5 (Or.inr ⟨(hw _ (List.mem_of_getElem? (i := 5) rfl)), (hw _ (List.mem_of_getElem? (i := 15) rfl))⟩)
  have E_k5 : Exa s s.heap a_k5 "com/example/folioscope/folioscope/image/SegmentData$Compression" := Exa.start v_k5 hz4
  have O_k5 := own_ord v_k5 hz5
  obtain ⟨a_k6, v_k6⟩ := exa_v hz6
  have S_k6 : Sta s s.heap "com/example/folioscope/folioscope/image/SegmentData$Compression" "CCITT_T4_2D" "Lcom/example/folioscope/folioscope/image/SegmentData$Compression;" (.ref a_k6) := Sta.start v_k6 (Or.inr ⟨(hw _ (List.mem_of_getElem? (i := 5) rfl)), (hw _ (List.mem_of_getElem? (i := 17) rfl))⟩)
  have E_k6 : Exa s s.heap a_k6 "com/example/folioscope/folioscope/image/SegmentData$Compression" := Exa.start v_k6 hz6
  have O_k6 := own_ord v_k6 hz7
  obtain ⟨a_k7, v_k7⟩ := exa_v hz8
  have S_k7 : Sta s s.heap "com/example/folioscope/folioscope/image/SegmentData$Compression" "CCITT_T6" "Lcom/example/folioscope/folioscope/image/SegmentData$Compression;" (.ref a_k7) := Sta.start v_k7 (Or.inr ⟨(hw _ (List.mem_of_getElem? (i := 5) rfl)), (hw _ (List.mem_of_getElem? (i := 19) rfl))⟩)
  have E_k7 : Exa s s.heap a_k7 "com/example/folioscope/folioscope/image/SegmentData$Compression" := Exa.start v_k7 hz8
  have O_k7 := own_ord v_k7 hz9
  have n_k0_k1 : a_k0 ≠ a_k1 := Fld.ne O_k0 O_k1 (fun q => absurd (Value.int.inj q) (by decide))
  have n_k0_k2 : a_k0 ≠ a_k2 := Fld.ne O_k0 O_k2 (fun q => absurd (Value.int.inj q) (by decide))
  have n_k0_k3 : a_k0 ≠ a_k3 := Fld.ne O_k0 O_k3 (fun q => absurd (Value.int.inj q) (by decide))
  have n_k0_k4 : a_k0 ≠ a_k4 := Fld.ne O_k0 O_k4 (fun q => absurd (Value.int.inj q) (by decide))
  have n_k0_k5 : a_k0 ≠ a_k5 := Fld.ne O_k0 O_k5 (fun q => absurd (Value.int.inj q) (by decide))
  have n_k0_k6 : a_k0 ≠ a_k6 := Fld.ne O_k0 O_k6 (fun q => absurd (Value.int.inj q) (by decide))
  have n_k0_k7 : a_k0 ≠ a_k7 := Fld.ne O_k0 O_k7 (fun q => absurd (Value.int.inj q) (by decide))
  have n_k1_k2 : a_k1 ≠ a_k2 := Fld.ne O_k1 O_k2 (fun q => absurd (Value.int.inj q) (by decide))
  have n_k1_k3 : a_k1 ≠ a_k3 := Fld.ne O_k1 O_k3 (fun q => absurd (Value.int.inj q) (by decide))
  have n_k1_k4 : a_k1 ≠ a_k4 := Fld.ne O_k1 O_k4 (fun q => absurd (Value.int.inj q) (by decide))
  have n_k1_k5 : a_k1 ≠ a_k5 := Fld.ne O_k1 O_k5 (fun q => absurd (Value.int.inj q) (by decide))
  have n_k1_k6 : a_k1 ≠ a_k6 := Fld.ne O_k1 O_k6 (fun q => absurd (Value.int.inj q) (by decide))
  have n_k1_k7 : a_k1 ≠ a_k7 := Fld.ne O_k1 O_k7 (fun q => absurd (Value.int.inj q) (by decide))
  have n_k2_k3 : a_k2 ≠ a_k3 := Fld.ne O_k2 O_k3 (fun q => absurd (Value.int.inj q) (by decide))
  have n_k2_k4 : a_k2 ≠ a_k4 := Fld.ne O_k2 O_k4 (fun q => absurd (Value.int.inj q) (by decide))
  have n_k2_k5 : a_k2 ≠ a_k5 := Fld.ne O_k2 O_k5 (fun q => absurd (Value.int.inj q) (by decide))
  have n_k2_k6 : a_k2 ≠ a_k6 := Fld.ne O_k2 O_k6 (fun q => absurd (Value.int.inj q) (by decide))
  have n_k2_k7 : a_k2 ≠ a_k7 := Fld.ne O_k2 O_k7 (fun q => absurd (Value.int.inj q) (by decide))
  have n_k3_k4 : a_k3 ≠ a_k4 := Fld.ne O_k3 O_k4 (fun q => absurd (Value.int.inj q) (by decide))
  have n_k3_k5 : a_k3 ≠ a_k5 := Fld.ne O_k3 O_k5 (fun q => absurd (Value.int.inj q) (by decide))
  have n_k3_k6 : a_k3 ≠ a_k6 := Fld.ne O_k3 O_k6 (fun q => absurd (Value.int.inj q) (by decide))
  have n_k3_k7 : a_k3 ≠ a_k7 := Fld.ne O_k3 O_k7 (fun q => absurd (Value.int.inj q) (by decide))
  have n_k4_k5 : a_k4 ≠ a_k5 := Fld.ne O_k4 O_k5 (fun q => absurd (Value.int.inj q) (by decide))
  have n_k4_k6 : a_k4 ≠ a_k6 := Fld.ne O_k4 O_k6 (fun q => absurd (Value.int.inj q) (by decide))
  have n_k4_k7 : a_k4 ≠ a_k7 := Fld.ne O_k4 O_k7 (fun q => absurd (Value.int.inj q) (by decide))
  have n_k5_k6 : a_k5 ≠ a_k6 := Fld.ne O_k5 O_k6 (fun q => absurd (Value.int.inj q) (by decide))
  have n_k5_k7 : a_k5 ≠ a_k7 := Fld.ne O_k5 O_k7 (fun q => absurd (Value.int.inj q) (by decide))
  have n_k6_k7 : a_k6 ≠ a_k7 := Fld.ne O_k6 O_k7 (fun q => absurd (Value.int.inj q) (by decide))
  obtain ⟨n, o, h1, h2, h3, _, L, rfl, hQ, hq⟩ := rm_law l s _ hw tables_1 q0 a_k0 a_k1 a_k2 a_k3 a_k4 a_k5 a_k6 a_k7 s.heap S_k0 S_k1 S_k2 S_k3 S_k4 S_k5 S_k6 S_k7 E_k0 E_k1 E_k2 E_k3 E_k4 E_k5 E_k6 E_k7 n_k0_k1 n_k0_k2 n_k0_k3 n_k0_k4 n_k0_k5 n_k0_k6 n_k0_k7 n_k1_k2 n_k1_k3 n_k1_k4 n_k1_k5 n_k1_k6 n_k1_k7 n_k2_k3 n_k2_k4 n_k2_k5 n_k2_k6 n_k2_k7 n_k3_k4 n_k3_k5 n_k3_k6 n_k3_k7 n_k4_k5 n_k4_k6 n_k4_k7 n_k5_k6 n_k5_k7 n_k6_k7 p e ha hc hk s m _ below hf ((Spec.applies_iff_loose hf).mp happ).1 ⟨rfl, State.Warmed39.refl s, rfl⟩ trivial
  obtain ⟨rfl, rfl, -⟩ := hQ
  refine ⟨n, _, h1, h2, h3, hpost _ _ _ _ _ _ ⟨Cond.after_iff.mpr rfl, Cond.after_iff.mpr (eq_i res_at (Term.int_eval (1)) rfl), trivial⟩ ⟨hq.1, hq.2.1, (hq.2.2.sift fun y hy => nomatch hy).mono (by decide) (by decide)⟩⟩
theorem main_1_1 : Claimed_1_1 := comes_1 fun _ _ _ _ _ _ h hF => ⟨h.1, hF⟩
theorem main_1_2 : Claimed_1_2 := comes_1 fun _ _ _ _ _ _ h hF => ⟨h.2.1, hF⟩
end Jvm.Pilot.@@N@@
namespace Jvm.Pilot.@@N@@
open Jvm Jvm.ClassFile Sem Op Lib Jvm.Free Jvm.Stand Jvm.Pilot.@@N@@.Jvm.D
/-! MADE BY PROGRAM (witnessworld.py) out of the Statement's table words and the real class files: 12 classes; the members and pool entries that the words name. The judged class is class 1, her method 3. -/
namespace start1
open Jvm.ClassFile
def u (s : String) : CpInfo := .utf8 (stringToUtf16 s)
/-- a pool by its gaps: so many unusable entries, then the entry; so many at the end -/
def gap : Nat → List CpInfo → List CpInfo
  | 0, r => r
  | n + 1, r => .unusable :: gap n r
def poolList (es : List (Nat × CpInfo)) (last : Nat) : List CpInfo := es.foldr (fun e r => gap e.1 (e.2 :: r)) (gap last [])
def pool (es : List (Nat × CpInfo)) (last : Nat) : Array CpInfo := ⟨poolList es last⟩
def fileOf (pool : Array CpInfo) (this : Nat) (attrs : Array Attribute := #[]) (ms : Array MethodInfo := #[]) (fl : Nat := 33) (sup : Nat := 0) (ifs : Array Nat := #[]) (fds : Array FieldInfo := #[]) : ClassFile where
  minorVersion := 0
  majorVersion := 65
  constantPool := pool
  accessFlags := fl
  thisClass := this
  superClass := sup
  interfaces := ifs
  fields := fds
  methods := ms
  attributes := attrs
def plain (name : String) (sup : Option ClassId) : Class where
  name := name
  kind := .ordinary
  loader := none
  accessFlags := 33
  super := sup
  interfaces := #[]
  cf := none
  fields := #[]
  methods := #[]
  instanceTypes := #[]
  staticTypes := #[]
  resolved := #[]
  callSites := []
  init := .initialized
  statics := none
  mirror := none

def pool0 : Array CpInfo := pool [(5, u "<init>"), (0, u "()V"), (1, .class_ 10), (1, u "java/lang/Object")] 113

def k0m0 : Method := { name := "<init>", desc := "()V", sig := { parameters := [], returnType := none }, accessFlags := 1, code := none }
/-- java/lang/Object -/
def k0 : Class := { plain "java/lang/Object" none with
  accessFlags := 33
  interfaces := #[]
  cf := some (fileOf pool0 8 #[] #[{ accessFlags := 1, nameIndex := 5, descriptorIndex := 6, attributes := #[] }] 33 0 #[] #[])
  fields := #[]
  methods := #[k0m0]
  instanceTypes := #[]
  staticTypes := #[]
  resolved := Array.replicate 124 none
  statics := none }

def pool1 : Array CpInfo := pool [(2, .class_ 4), (1, u "java/lang/Object"), (0, u "<init>"), (0, u "()V"), (0, .fieldref 8 9), (0, .class_ 10), (0, .nameAndType 11 12), (0, u "com/example/folioscope/folioscope/image/SegmentData$Compression"), (0, u "NONE"), (0, u "Lcom/example/folioscope/folioscope/image/SegmentData$Compression;"), (0, .fieldref 8 14), (0, .nameAndType 15 12), (0, u "PACK_BITS"), (0, .fieldref 8 17), (0, .nameAndType 18 12), (0, u "LZW"), (0, .fieldref 8 20), (0, .nameAndType 21 12), (0, u "DEFLATE"), (0, .fieldref 8 23), (0, .nameAndType 24 12), (0, u "CCITT_RLE"), (0, .fieldref 8 26), (0, .nameAndType 27 12), (0, u "CCITT_T4"), (0, .fieldref 8 29), (0, .nameAndType 30 12), (0, u "CCITT_T4_2D"), (0, .fieldref 8 32), (0, .nameAndType 33 12), (0, u "CCITT_T6"), (0, .methodref 35 36), (0, .class_ 37), (0, .nameAndType 38 39), (0, u "com/example/folioscope/folioscope/image/CompressionIsCcittPinLaw"), (0, u "pick"), (0, u "(I)Lcom/example/folioscope/folioscope/image/SegmentData$Compression;"), (0, .methodref 8 41), (0, .nameAndType 42 43), (0, u "isCcitt"), (0, u "()Z"), (0, .methodref 35 45), (0, .nameAndType 46 47), (0, u "expected"), (0, u "(I)Z"), (3, u "law")] 6

def k1m0 : Method := { name := "<init>", desc := "()V", sig := { parameters := [], returnType := none }, accessFlags := 2, code := none }
def k1c1 : Code := { maxStack := 2, maxLocals := 1, code := method_2_code, exceptionTable := #[], attributes := #[] }
def k1m1 : Method := { name := "pick", desc := "(I)Lcom/example/folioscope/folioscope/image/SegmentData$Compression;", sig := { parameters := [.int], returnType := some (.object "com/example/folioscope/folioscope/image/SegmentData$Compression") }, accessFlags := 10, code := some k1c1 }
def k1c2 : Code := { maxStack := 2, maxLocals := 1, code := method_3_code, exceptionTable := #[], attributes := #[] }
def k1m2 : Method := { name := "expected", desc := "(I)Z", sig := { parameters := [.int], returnType := some .boolean }, accessFlags := 10, code := some k1c2 }
def k1c3 : Code := { maxStack := 2, maxLocals := 3, code := code, exceptionTable := #[], attributes := #[] }
def k1m3 : Method := { name := "law", desc := "(I)Z", sig := { parameters := [.int], returnType := some .boolean }, accessFlags := 9, code := some k1c3 }
/-- com/example/folioscope/folioscope/image/CompressionIsCcittPinLaw -/
def k1 : Class := { plain "com/example/folioscope/folioscope/image/CompressionIsCcittPinLaw" (some 0) with
  accessFlags := 49
  interfaces := #[]
  cf := some (fileOf pool1 35 #[] #[{ accessFlags := 2, nameIndex := 5, descriptorIndex := 6, attributes := #[] }, { accessFlags := 10, nameIndex := 38, descriptorIndex := 39, attributes := #[] }, { accessFlags := 10, nameIndex := 46, descriptorIndex := 47, attributes := #[] }, { accessFlags := 9, nameIndex := 51, descriptorIndex := 47, attributes := #[] }] 49 2 #[] #[])
  fields := #[]
  methods := #[k1m0, k1m1, k1m2, k1m3]
  instanceTypes := #[]
  staticTypes := #[]
  resolved := Array.replicate 58 none
  statics := none }

def pool2 : Array CpInfo := pool [(1, .class_ 2), (0, u "java/lang/constant/Constable"), (0, .class_ 4), (0, u "java/lang/Object")] 6

/-- java/lang/constant/Constable -/
def k2 : Class := { plain "java/lang/constant/Constable" (some 0) with
  accessFlags := 1537
  interfaces := #[]
  cf := some (fileOf pool2 1 #[] #[] 1537 3 #[] #[])
  fields := #[]
  methods := #[]
  instanceTypes := #[]
  staticTypes := #[]
  resolved := Array.replicate 11 none
  statics := none }

def pool3 : Array CpInfo := pool [(1, .class_ 2), (0, u "java/lang/Comparable"), (0, .class_ 4), (0, u "java/lang/Object")] 7

/-- java/lang/Comparable -/
def k3 : Class := { plain "java/lang/Comparable" (some 0) with
  accessFlags := 1537
  interfaces := #[]
  cf := some (fileOf pool3 1 #[] #[] 1537 3 #[] #[])
  fields := #[]
  methods := #[]
  instanceTypes := #[]
  staticTypes := #[]
  resolved := Array.replicate 12 none
  statics := none }

def pool4 : Array CpInfo := pool [(1, .class_ 2), (0, u "java/io/Serializable"), (0, .class_ 4), (0, u "java/lang/Object")] 2

/-- java/io/Serializable -/
def k4 : Class := { plain "java/io/Serializable" (some 0) with
  accessFlags := 1537
  interfaces := #[]
  cf := some (fileOf pool4 1 #[] #[] 1537 3 #[] #[])
  fields := #[]
  methods := #[]
  instanceTypes := #[]
  staticTypes := #[]
  resolved := Array.replicate 7 none
  statics := none }

def pool5 : Array CpInfo := pool [(2, .class_ 4), (1, u "java/lang/Enum"), (0, u "name"), (0, u "Ljava/lang/String;"), (2, u "ordinal"), (0, u "I"), (1, .class_ 14), (1, u "java/lang/Object"), (4, u "hash"), (86, .class_ 108), (1, u "java/lang/Enum$EnumDesc"), (2, .class_ 112), (0, u "java/lang/constant/Constable"), (0, .class_ 114), (0, u "java/lang/Comparable"), (0, .class_ 116), (0, u "java/io/Serializable")] 87

/-- java/lang/Enum -/
def k5 : Class := { plain "java/lang/Enum" (some 0) with
  accessFlags := 1057
  interfaces := #[2, 3, 4]
  cf := some (fileOf pool5 2 #[.nestMembers #[106]] #[] 1057 12 #[111, 113, 115] #[{ accessFlags := 18, nameIndex := 5, descriptorIndex := 6, attributes := #[] }, { accessFlags := 18, nameIndex := 9, descriptorIndex := 10, attributes := #[] }, { accessFlags := 2, nameIndex := 19, descriptorIndex := 10, attributes := #[] }])
  fields := #[{ name := "name", type := (.object "java/lang/String"), accessFlags := 18, slot := 0, constantValue := 0 }, { name := "ordinal", type := .int, accessFlags := 18, slot := 1, constantValue := 0 }, { name := "hash", type := .int, accessFlags := 2, slot := 2, constantValue := 0 }]
  methods := #[]
  instanceTypes := #[(.object "java/lang/String"), .int, .int]
  staticTypes := #[]
  resolved := Array.replicate 204 none
  statics := none }

def pool6 : Array CpInfo := pool [(3, .class_ 4), (0, u "com/example/folioscope/folioscope/image/SegmentData$Compression"), (2, u "NONE"), (0, u "Lcom/example/folioscope/folioscope/image/SegmentData$Compression;"), (2, u "PACK_BITS"), (2, u "LZW"), (2, u "DEFLATE"), (0, .fieldref 3 19), (0, .nameAndType 20 8), (0, u "CCITT_RLE"), (0, .fieldref 3 22), (0, .nameAndType 23 8), (0, u "CCITT_T4"), (0, .fieldref 3 25), (0, .nameAndType 26 8), (0, u "CCITT_T4_2D"), (0, .fieldref 3 28), (0, .nameAndType 29 8), (0, u "CCITT_T6"), (2, u "$VALUES"), (0, u "[Lcom/example/folioscope/folioscope/image/SegmentData$Compression;"), (6, .class_ 42), (1, u "java/lang/Enum"), (62, u "isCcitt"), (0, u "()Z"), (5, .class_ 113), (0, u "com/example/folioscope/folioscope/image/SegmentData")] 2

def k6c0 : Code := { maxStack := 2, maxLocals := 1, code := prog_74_method_5_code, exceptionTable := #[], attributes := #[] }
def k6m0 : Method := { name := "isCcitt", desc := "()Z", sig := { parameters := [], returnType := some .boolean }, accessFlags := 0, code := some k6c0 }
/-- com/example/folioscope/folioscope/image/SegmentData$Compression -/
def k6 : Class := { plain "com/example/folioscope/folioscope/image/SegmentData$Compression" (some 5) with
  accessFlags := 16432
  interfaces := #[]
  cf := some (fileOf pool6 3 #[.nestHost 112] #[{ accessFlags := 0, nameIndex := 105, descriptorIndex := 106, attributes := #[] }] 16432 40 #[] #[{ accessFlags := 16409, nameIndex := 7, descriptorIndex := 8, attributes := #[] }, { accessFlags := 16409, nameIndex := 11, descriptorIndex := 8, attributes := #[] }, { accessFlags := 16409, nameIndex := 14, descriptorIndex := 8, attributes := #[] }, { accessFlags := 16409, nameIndex := 17, descriptorIndex := 8, attributes := #[] }, { accessFlags := 16409, nameIndex := 20, descriptorIndex := 8, attributes := #[] }, { accessFlags := 16409, nameIndex := 23, descriptorIndex := 8, attributes := #[] }, { accessFlags := 16409, nameIndex := 26, descriptorIndex := 8, attributes := #[] }, { accessFlags := 16409, nameIndex := 29, descriptorIndex := 8, attributes := #[] }, { accessFlags := 4122, nameIndex := 32, descriptorIndex := 33, attributes := #[] }])
  fields := #[{ name := "NONE", type := (.object "com/example/folioscope/folioscope/image/SegmentData$Compression"), accessFlags := 16409, slot := 0, constantValue := 0 }, { name := "PACK_BITS", type := (.object "com/example/folioscope/folioscope/image/SegmentData$Compression"), accessFlags := 16409, slot := 1, constantValue := 0 }, { name := "LZW", type := (.object "com/example/folioscope/folioscope/image/SegmentData$Compression"), accessFlags := 16409, slot := 2, constantValue := 0 }, { name := "DEFLATE", type := (.object "com/example/folioscope/folioscope/image/SegmentData$Compression"), accessFlags := 16409, slot := 3, constantValue := 0 }, { name := "CCITT_RLE", type := (.object "com/example/folioscope/folioscope/image/SegmentData$Compression"), accessFlags := 16409, slot := 4, constantValue := 0 }, { name := "CCITT_T4", type := (.object "com/example/folioscope/folioscope/image/SegmentData$Compression"), accessFlags := 16409, slot := 5, constantValue := 0 }, { name := "CCITT_T4_2D", type := (.object "com/example/folioscope/folioscope/image/SegmentData$Compression"), accessFlags := 16409, slot := 6, constantValue := 0 }, { name := "CCITT_T6", type := (.object "com/example/folioscope/folioscope/image/SegmentData$Compression"), accessFlags := 16409, slot := 7, constantValue := 0 }, { name := "$VALUES", type := (.array (.object "com/example/folioscope/folioscope/image/SegmentData$Compression")), accessFlags := 4122, slot := 8, constantValue := 0 }]
  methods := #[k6m0]
  instanceTypes := #[(.object "java/lang/String"), .int, .int]
  staticTypes := #[(.object "com/example/folioscope/folioscope/image/SegmentData$Compression"), (.object "com/example/folioscope/folioscope/image/SegmentData$Compression"), (.object "com/example/folioscope/folioscope/image/SegmentData$Compression"), (.object "com/example/folioscope/folioscope/image/SegmentData$Compression"), (.object "com/example/folioscope/folioscope/image/SegmentData$Compression"), (.object "com/example/folioscope/folioscope/image/SegmentData$Compression"), (.object "com/example/folioscope/folioscope/image/SegmentData$Compression"), (.object "com/example/folioscope/folioscope/image/SegmentData$Compression"), (.array (.object "com/example/folioscope/folioscope/image/SegmentData$Compression"))]
  resolved := Array.replicate 116 none
  statics := some 0 }

def pool7 : Array CpInfo := pool [(1, u "java/lang/Cloneable"), (0, .class_ 1), (0, u "java/lang/Object"), (0, .class_ 3)] 3

/-- java/lang/Cloneable -/
def k7 : Class := { plain "java/lang/Cloneable" (some 0) with
  accessFlags := 1537
  interfaces := #[]
  cf := some (fileOf pool7 2 #[] #[] 1537 4 #[] #[])
  fields := #[]
  methods := #[]
  instanceTypes := #[]
  staticTypes := #[]
  resolved := Array.replicate 8 none
  statics := none }

/-- the primitive byte -/
def k8 : Class := { plain "byte" none with kind := .primitive 'B', accessFlags := 0x411 }
/-- [B -/
def k9 : Class := { plain "[B" (some 0) with kind := .array 8 .byte, interfaces := #[7, 4], accessFlags := 1041 }

/-- the primitive int -/
def k10 : Class := { plain "int" none with kind := .primitive 'I', accessFlags := 0x411 }
/-- [I -/
def k11 : Class := { plain "[I" (some 0) with kind := .array 10 .int, interfaces := #[7, 4], accessFlags := 1041 }

def heap : Heap := #[{ cls := 6, slots := #[.ref 1, .ref 2, .ref 3, .ref 4, .ref 5, .ref 6, .ref 7, .ref 8, .null], vm := .statics 6 },
  { cls := 6, slots := #[.null, .int 0, .int 0], vm := .none },
  { cls := 6, slots := #[.null, .int 1, .int 0], vm := .none },
  { cls := 6, slots := #[.null, .int 2, .int 0], vm := .none },
  { cls := 6, slots := #[.null, .int 3, .int 0], vm := .none },
  { cls := 6, slots := #[.null, .int 4, .int 0], vm := .none },
  { cls := 6, slots := #[.null, .int 5, .int 0], vm := .none },
  { cls := 6, slots := #[.null, .int 6, .int 0], vm := .none },
  { cls := 6, slots := #[.null, .int 7, .int 0], vm := .none }]
def classes : Array Class := #[k0, k1, k2, k3, k4, k5, k6, k7, k8, k9, k10, k11]
def interned : List (Array UInt16 × Addr) := []
def slotsUsed : Nat := 33
def theMethod : MethodId := ⟨1, 3⟩
def args0 : Array Value := #[.int 5]
def aboutOver (below : List Frame) : State where
  vm := { classes := classes, interned := interned.toArray }
  heap := heap
  slotsUsed := slotsUsed
  threads := #[{ frames := .invoking theMethod args0 :: below }]
def below0 : List Frame := [.native { method := ⟨0, 0⟩, args := #[] }]
def about1 : State := aboutOver below0
def p0 : Program := .bare "" "" ""
def e0 : Env := launch0.env 0 0 0
theorem w_frames : about1.frames = Frame.invoking theMethod args0 :: below0 := rfl
set_option maxRecDepth 65536 in
theorem w_args : argsFit about1.vm theMethod args0 = true := by decide +kernel
set_option maxRecDepth 65536 in
theorem w_heap : heapFits about1 = true := by decide +kernel
set_option maxRecDepth 65536 in
theorem w_runnable : about1.curStatus? = some .runnable := by decide +kernel
set_option maxRecDepth 65536 in
theorem w_alone : about1.alone = true := by decide +kernel
set_option maxRecDepth 65536 in
theorem w_named : about1.methodNamed? x = some theMethod := by decide +kernel
set_option maxRecDepth 65536 in
theorem w_hears : about1.hears theMethod below0 = true := by decide +kernel
set_option maxRecDepth 65536 in
theorem w_ripe : about1.ripe theMethod args0 below0 = true := by decide +kernel
theorem w_running : about1.status = .running := rfl
set_option maxRecDepth 65536 in
theorem w_room : about1.hasRoom e0.platform room_1 = true :=
  launch0.hasRoom_least _ room_1 (by decide +kernel) (by decide +kernel) (by decide +kernel) (by decide +kernel) (by decide +kernel) (by decide +kernel)
theorem allAtoms_all (ts : List Jvm.Cond) (a : Array Jvm.Value) (st : Jvm.State) : (allAtoms ts).before a st = ts.all (fun c => c.before a st) := by
  induction ts with
  | nil => rfl
  | cons c t ih =>
    show (Jvm.Cond.and c (allAtoms t)).before a st = _
    rw [Jvm.Cond.before_and, ih, List.all_cons]
def words1 : List Jvm.Cond := Jvm.Cond.code x code maxLocals ret :: tables_1
/-- a 'code' word, met by the world's own term for the bytes: nothing is compared byte by byte -/
theorem code_word {y : MethodName} {bytes : ByteArray} {mx : Nat} {rt : Option FieldType} {a : Array Value} {s : State} {m : MethodId} {meth : Method} {c : Code} (h1 : s.methodNamed? y = some m) (h2 : s.vm.method? m = some meth) (h3 : meth.code = some c) (h4 : c.code = bytes)
    (h5 : (c.maxLocals == mx && c.exceptionTable.isEmpty && decide (c.maxStack ≤ mostOperands) && decide (meth.sig.returnType = rt) && !meth.locks && decide (parseMethodDescriptor y.desc = some meth.sig)) = true) : (Jvm.Cond.code y bytes mx rt).before a s = true := by
  simp only [Bool.and_eq_true, beq_iff_eq, Bool.not_eq_true', decide_eq_true_eq] at h5
  obtain ⟨⟨⟨⟨⟨g1, g2⟩, g3⟩, g4⟩, g5⟩, g6⟩ := h5
  simp [Cond.before, Cond.holds, Cond.value, h1, h2, h3, h4, g1, g2, g3, g4, g5, g6]
def isCode : Jvm.Cond → Bool
  | .code _ _ _ _ => true
  | _ => false
theorem all_split {L : List Jvm.Cond} {P : Jvm.Cond → Bool} (h1 : L.all (fun c => isCode c || P c) = true) (h2 : ∀ c ∈ L.filter isCode, P c = true) : L.all P = true := by
  refine List.all_eq_true.mpr fun c hc => ?_
  have h := List.all_eq_true.mp h1 c hc
  rcases Bool.eq_false_or_eq_true (isCode c) with hi | hi
  · exact h2 c (List.mem_filter.mpr ⟨hc, hi⟩)
  · simpa [hi] using h
set_option maxRecDepth 65536 in
theorem w_c0 : (Jvm.Cond.code x code maxLocals ret).before args0 about1 = true := code_word (m := ⟨1, 3⟩) (meth := k1m3) (c := k1c3) (by decide +kernel) rfl rfl rfl (by decide +kernel)
set_option maxRecDepth 65536 in
theorem w_c1 : (Jvm.Cond.code ({ cls := "com/example/folioscope/folioscope/image/CompressionIsCcittPinLaw", name := "pick", desc := "(I)Lcom/example/folioscope/folioscope/image/SegmentData$Compression;" } : Jvm.MethodName) method_2_code (1 : Nat) (Option.some (Jvm.ClassFile.FieldType.object "com/example/folioscope/folioscope/image/SegmentData$Compression"))).before args0 about1 = true := code_word (m := ⟨1, 1⟩) (meth := k1m1) (c := k1c1) (by decide +kernel) rfl rfl rfl (by decide +kernel)
set_option maxRecDepth 65536 in
theorem w_c2 : (Jvm.Cond.code ({ cls := "com/example/folioscope/folioscope/image/SegmentData$Compression", name := "isCcitt", desc := "()Z" } : Jvm.MethodName) prog_74_method_5_code (1 : Nat) (Option.some Jvm.ClassFile.FieldType.boolean)).before args0 about1 = true := code_word (m := ⟨6, 0⟩) (meth := k6m0) (c := k6c0) (by decide +kernel) rfl rfl rfl (by decide +kernel)
set_option maxRecDepth 65536 in
theorem w_c3 : (Jvm.Cond.code ({ cls := "com/example/folioscope/folioscope/image/CompressionIsCcittPinLaw", name := "expected", desc := "(I)Z" } : Jvm.MethodName) method_3_code (1 : Nat) (Option.some Jvm.ClassFile.FieldType.boolean)).before args0 about1 = true := code_word (m := ⟨1, 2⟩) (meth := k1m2) (c := k1c2) (by decide +kernel) rfl rfl rfl (by decide +kernel)
def codes1 : List Jvm.Cond := [Jvm.Cond.code x code maxLocals ret, Jvm.Cond.code ({ cls := "com/example/folioscope/folioscope/image/CompressionIsCcittPinLaw", name := "pick", desc := "(I)Lcom/example/folioscope/folioscope/image/SegmentData$Compression;" } : Jvm.MethodName) method_2_code (1 : Nat) (Option.some (Jvm.ClassFile.FieldType.object "com/example/folioscope/folioscope/image/SegmentData$Compression")), Jvm.Cond.code ({ cls := "com/example/folioscope/folioscope/image/SegmentData$Compression", name := "isCcitt", desc := "()Z" } : Jvm.MethodName) prog_74_method_5_code (1 : Nat) (Option.some Jvm.ClassFile.FieldType.boolean), Jvm.Cond.code ({ cls := "com/example/folioscope/folioscope/image/CompressionIsCcittPinLaw", name := "expected", desc := "(I)Z" } : Jvm.MethodName) method_3_code (1 : Nat) (Option.some Jvm.ClassFile.FieldType.boolean)]
set_option maxRecDepth 65536 in
theorem codes_eq : words1.filter isCode = codes1 := rfl
theorem w_codes : ∀ c ∈ words1.filter isCode, c.before args0 about1 = true := by
  rw [codes_eq]
  intro c hc
  simp only [codes1, List.mem_cons, List.not_mem_nil, or_false] at hc
  rcases hc with rfl | rfl | rfl | rfl
  · exact w_c0
  · exact w_c1
  · exact w_c2
  · exact w_c3
set_option maxRecDepth 65536 in
theorem w_t1 : (words1.take 24).all (fun c => isCode c || c.before args0 about1) = true := by decide +kernel
set_option maxRecDepth 65536 in
theorem w_t2 : (words1.drop 24).all (fun c => isCode c || c.before args0 about1) = true := by decide +kernel
theorem w_tables : (allAtoms (Jvm.Cond.code x code maxLocals ret :: tables_1)).before args0 about1 = true := by
  rw [allAtoms_all]
  show words1.all (fun c => c.before args0 about1) = true
  refine all_split ?_ w_codes
  rw [← List.take_append_drop 24 words1, List.all_append, w_t1, w_t2]
  rfl
set_option maxRecDepth 65536 in
theorem w_case : (Jvm.Cond.and given_1 narrow_1).before args0 about1 = true := by decide +kernel
theorem w_applies : (headSpec (Jvm.Cond.code x code maxLocals ret :: tables_1) room_1).applies x e0.platform about1 = true :=
  (Spec.applies_iff w_frames).mpr ⟨w_running, w_runnable, w_alone, w_named, w_hears, w_ripe, w_room, w_tables⟩
theorem atStart : AtStart classFile x code maxLocals ret World_1 tables_1 room_1 Calls_1 rest_1 Pre_1 launch0 p0 e0 about1 theMethod args0 below0 :=
  ⟨lists_1, trivial, launch0.admits_env _ _ _, launch0.least_env, fairChoices_fair.cas, fairChoices_fair.clock, w_frames, w_args, w_heap, w_applies, trivial, trivial, w_case⟩
end start1
theorem witness_1 : WitnessClaimed_1 := ⟨start1.p0, start1.e0, start1.about1, start1.theMethod, start1.args0, start1.below0, start1.atStart⟩
end Jvm.Pilot.@@N@@
