import JvmDerived
import JvmDerived.Pilot.@@N@@Statement
import JvmDerived.Pilot.@@N@@Code
set_option linter.unusedVariables false
set_option linter.unusedSimpArgs false
@@BLOCK:NumsL.lean.txt@@
namespace Jvm.Pilot.@@N@@
open Jvm Jvm.ClassFile Sem Op Lib Jvm.Free Jvm.Stand Jvm.LawKit Jvm.RoadKit Bundle Jvm.Pilot.@@N@@.Jvm.D
/-! The walk in the continuation's form: 'Goes' says of a place (state, frame) that from it the body ends as Q says. -/
def Goes (p : Program) (e : Env) (below : List Frame) (s : State) (Q : Option Value → Heap → List Loc → Prop) (k n : Nat) (T : State) (g : JFrame) : Prop :=
  ∃ s₂ o, Steps p.tables e below (T.setTop g) s₂ ∧ s₂.status = .running ∧ Ended s₂ below o ∧ ∃ v L, o = .returned v ∧ Q v s₂.heap L ∧ FrameEnd s o s₂ L k n
section OwnKit
variable {p : Program} {l : Launch} {e : Env} {R : Room} {s : State} {m : MethodId} {args : Array Value} {below : List Frame} {meth : Method} {c : Code} {T T' : State} {locs : List Loc} {cells slots : Nat} {Q : Option Value → Heap → List Loc → Prop} {k n : Nat} {g g' : JFrame}
theorem own_go (f : ∀ t, Steps p.tables e below (T'.setTop g') t → Steps p.tables e below (T.setTop g) t) (h : Goes p e below s Q k n T' g') : Goes p e below s Q k n T g := by
  obtain ⟨a, b, h1, r⟩ := h
  exact ⟨a, b, f _ h1, r⟩
theorem own_tr (f : Steps p.tables e below (T.setTop g) (T'.setTop g')) (h : Goes p e below s Q k n T' g') : Goes p e below s Q k n T g := by
  obtain ⟨a, b, h1, r⟩ := h
  exact ⟨a, b, f.trans h1, r⟩
theorem own_ret (X : Stand p l e R s m args below meth c T locs cells slots) (hx : p.tables.exec = Jvm.exec) {pc : Nat} {Ls : Array Slot} {w : Value} {t : FieldType} {i : Instr} {rest : List Value} (hret : meth.sig.returnType = some t) (hlocks : meth.locks = false) (hn : narrow t w = w)
    (hi : (i = .ireturn ∧ (t = .int ∨ t = .boolean ∨ t = .byte ∨ t = .char ∨ t = .short) ∧ ∃ z, w = .int z) ∨ (i = .lreturn ∧ t = .long ∧ ∃ z, w = .long z) ∨ (i = .dreturn ∧ t = .double ∧ ∃ z, w = .double z) ∨ (i = .freturn ∧ t = .float ∧ ∃ z, w = .float z) ∨ (i = .areturn ∧ t.isReference = true ∧ w.isRef = true))
    (hd : decode c.code pc = .ok (i, 1)) (hQ : Q (some w) T.heap locs) (hc : cells ≤ k) (hs : slots ≤ n) : Goes p e below s Q k n T (mkF m pc Ls (w :: rest)) := by
  obtain ⟨fs, hr, hrun, hended, hW, hsame⟩ := X.leave (v := some w) (fun h => by rw [hret] at h; cases h) hlocks
  exact ⟨_, _, retOut X hx hret hn hi hd hr, hrun, hended, _, _, rfl, hQ, ⟨_, rfl⟩, hW, hsame.mono hc hs⟩
theorem own_retI (X : Stand p l e R s m args below meth c T locs cells slots) (hx : p.tables.exec = Jvm.exec) {pc : Nat} {Ls : Array Slot} {z : Int32} {rest : List Value} (hret : meth.sig.returnType = some .int) (hlocks : meth.locks = false)
    (hd : decode c.code pc = .ok (.ireturn, 1)) (hQ : Q (some (.int z)) T.heap locs) (hc : cells ≤ k) (hs : slots ≤ n) : Goes p e below s Q k n T (mkF m pc Ls (.int z :: rest)) :=
  own_ret X hx hret hlocks rfl (Or.inl ⟨rfl, Or.inl rfl, z, rfl⟩) hd hQ hc hs
theorem own_retZ (X : Stand p l e R s m args below meth c T locs cells slots) (hx : p.tables.exec = Jvm.exec) {pc : Nat} {Ls : Array Slot} {z : Int32} {rest : List Value} (hret : meth.sig.returnType = some .boolean) (hlocks : meth.locks = false) (hz : z = 0 ∨ z = 1)
    (hd : decode c.code pc = .ok (.ireturn, 1)) (hQ : Q (some (.int z)) T.heap locs) (hc : cells ≤ k) (hs : slots ≤ n) : Goes p e below s Q k n T (mkF m pc Ls (.int z :: rest)) :=
  own_ret X hx hret hlocks (by rcases hz with rfl | rfl <;> rfl) (Or.inl ⟨rfl, Or.inr (Or.inl rfl), z, rfl⟩) hd hQ hc hs
theorem own_retJ (X : Stand p l e R s m args below meth c T locs cells slots) (hx : p.tables.exec = Jvm.exec) {pc : Nat} {Ls : Array Slot} {z : Int64} {rest : List Value} (hret : meth.sig.returnType = some .long) (hlocks : meth.locks = false)
    (hd : decode c.code pc = .ok (.lreturn, 1)) (hQ : Q (some (.long z)) T.heap locs) (hc : cells ≤ k) (hs : slots ≤ n) : Goes p e below s Q k n T (mkF m pc Ls (.long z :: rest)) :=
  own_ret X hx hret hlocks rfl (Or.inr (Or.inl ⟨rfl, rfl, z, rfl⟩)) hd hQ hc hs
theorem own_retA (X : Stand p l e R s m args below meth c T locs cells slots) (hx : p.tables.exec = Jvm.exec) {pc : Nat} {Ls : Array Slot} {w : Value} {t : FieldType} {rest : List Value} (hret : meth.sig.returnType = some t) (ht : t.isReference = true) (hlocks : meth.locks = false) (hw : w.isRef = true)
    (hd : decode c.code pc = .ok (.areturn, 1)) (hQ : Q (some w) T.heap locs) (hc : cells ≤ k) (hs : slots ≤ n) : Goes p e below s Q k n T (mkF m pc Ls (w :: rest)) :=
  own_ret X hx hret hlocks (by cases t <;> simp [FieldType.isReference] at ht <;> cases w <;> simp [Value.isRef] at hw <;> rfl) (Or.inr (Or.inr (Or.inr (Or.inr ⟨rfl, ht, hw⟩)))) hd hQ hc hs
theorem own_retV (X : Stand p l e R s m args below meth c T locs cells slots) (hx : p.tables.exec = Jvm.exec) {pc : Nat} {Ls : Array Slot} (hret : meth.sig.returnType = none) (hlocks : meth.locks = false)
    (hd : decode c.code pc = .ok (.return_, 1)) (hQ : Q none T.heap locs) (hc : cells ≤ k) (hs : slots ≤ n) : Goes p e below s Q k n T (mkF m pc Ls []) := by
  obtain ⟨fs, hr, hrun, hended, hW, hsame⟩ := X.leave (v := none) (fun _ => rfl) hlocks
  exact ⟨_, _, X.returnOut hx hret hd hr, hrun, hended, _, _, rfl, hQ, ⟨_, rfl⟩, hW, hsame.mono hc hs⟩
/-- what a callee that writes nothing leaves: its value r, the heap as it was -/
def own_pure (r : Option Value) (h0 : Heap) : Option Value → Heap → List Loc → Prop := fun v h L => v = r ∧ L = [] ∧ h = h0
/-- a callee's contract -/
abbrev Pays (l : Launch) (Z : State) (y : MethodName) (bytes : ByteArray) (maxL : Nat) (ret : Option FieldType) (rm : Room) (as' : Array Value) (h0 : Heap) (Q : Option Value → Heap → List Loc → Prop) : Prop :=
  MetFree l y (head1 [Jvm.Cond.code y bytes maxL ret] rm) (fun a U => a = as' ∧ Z.Warmed39 U.vm ∧ U.heap = h0) (fun _ _ _ _ _ => True) (fun _ U o U' => ∃ v L, o = .returned v ∧ Q v U'.heap L ∧ FrameEnd U o U' L rm.cells rm.slots)
theorem own_callS {Z : State} {a0 : Array Value} {h : Heap} {rm : Room} {W : Nat} {own : String} {index : Nat} {y : MethodName} {bytes : ByteArray} {maxL : Nat} {ret : Option FieldType} {argsL rest : List Value} {r : Option Value}
    (X : Stand p l e R s m args below meth c T locs cells slots) (hx : p.tables.exec = Jvm.exec) (hZ : Z.Warmed39 s.vm) (hown : s.vm.findClass own = some m.cls)
    (wl : (Jvm.Cond.methodLink own index y).before a0 Z = true) (wst : (Jvm.Cond.static y).before a0 Z = true) (wi : (Jvm.Cond.initialized y.cls).before a0 Z = true) (wc : (Jvm.Cond.code y bytes maxL ret).before a0 Z = true)
    (hy : y.cls ≠ "java/lang/invoke/MethodHandle" ∧ y.cls ≠ "java/lang/invoke/VarHandle") (eT : T.heap = h)
    (hM : Pays l Z y bytes maxL ret rm argsL.toArray h (own_pure r h)) (hrc : rm.cells = 0) (hrs : rm.slots = 0) (hcl : cells ≤ R.cells) (hsl : slots ≤ R.slots) (hf : rm.frames + 1 ≤ R.frames) (hl : W + (maxL + 11) + rm.locals ≤ R.locals)
    (hg : g.method = m) (hsize : g.locals.size = c.maxLocals) (hlen : ∀ sig, parseMethodDescriptor y.desc = some sig → argsL.length = sig.parameters.length)
    (hstack : g.stack = argsL.reverse ++ rest) (hW : 2 * g.monitorRoom + (rest.map fun v => v.category).sum ≤ W) (hdg : decode c.code g.pc = .ok (.invokestatic index, 3)) :
    ∃ T', Stand p l e R s m args below meth c T' locs cells slots ∧ T'.heap = h ∧ ∀ t, Steps p.tables e below (T'.setTop { g with pc := g.pc + 3, stack := r.toList ++ rest }) t → Steps p.tables e below (T.setTop g) t := by
  obtain ⟨v, vm₁, ⟨T1, L1, k1, n1⟩, hw1, X1, ⟨Lc, hQ, l1, y1, z1⟩, st⟩ := Jvm.LawKit.callS X hx (y := y) hown (mvT hZ wl) (mvT hZ wst) (mvT hZ wi) (mvT hZ wc) hy (backOf (W := W) hM hZ wc wi hf hl) hg hsize hlen hstack hW hdg (fun _ _ => ⟨rfl, eT, by rw [hrc]; exact hcl, by rw [hrs]; exact hsl⟩)
  dsimp only [Pt.U, Pt.locs, Pt.cells, Pt.slots] at X1 l1 y1 z1 st hQ
  obtain ⟨rfl, rfl, hh⟩ := hQ
  subst l1 y1 z1
  rw [List.append_nil, hrc, hrs, Nat.add_zero, Nat.add_zero] at X1
  exact ⟨T1, X1, hh, st⟩
theorem own_callV {Z : State} {a0 : Array Value} {h : Heap} {rm : Room} {W : Nat} {own C : String} {index : Nat} {y z : MethodName} {bytes : ByteArray} {maxL : Nat} {ret : Option FieldType} {argsL rest : List Value} {r : Option Value} {b : Addr}
    (X : Stand p l e R s m args below meth c T locs cells slots) (hx : p.tables.exec = Jvm.exec) (hZ : Z.Warmed39 s.vm) (hown : s.vm.findClass own = some m.cls)
    (wl : (Jvm.Cond.methodLink own index y).before a0 Z = true) (wd : (Jvm.Cond.declares y).before a0 Z = true) (wsel : (Jvm.Cond.selects C y z).before a0 Z = true) (hnf : NotFace s y) (win : (Jvm.Cond.instanceMethod z).before a0 Z = true) (wi : (Jvm.Cond.initialized z.cls).before a0 Z = true) (wc : (Jvm.Cond.code z bytes maxL ret).before a0 Z = true)
    (hy : y.cls ≠ "java/lang/invoke/MethodHandle" ∧ y.cls ≠ "java/lang/invoke/VarHandle") (eT : T.heap = h) (E : Exa Z h b C)
    (hM : Pays l Z z bytes maxL ret rm (.ref b :: argsL).toArray h (own_pure r h)) (hrc : rm.cells = 0) (hrs : rm.slots = 0) (hcl : cells ≤ R.cells) (hsl : slots ≤ R.slots) (hf : rm.frames + 1 ≤ R.frames) (hl : W + (maxL + 11) + rm.locals ≤ R.locals)
    (hg : g.method = m) (hsize : g.locals.size = c.maxLocals) (hlen : ∀ sig, parseMethodDescriptor y.desc = some sig → argsL.length = sig.parameters.length)
    (hstack : g.stack = argsL.reverse ++ .ref b :: rest) (hW : 2 * g.monitorRoom + (rest.map fun v => v.category).sum ≤ W) (hdg : decode c.code g.pc = .ok (.invokevirtual index, 3)) :
    ∃ T', Stand p l e R s m args below meth c T' locs cells slots ∧ T'.heap = h ∧ ∀ t, Steps p.tables e below (T'.setTop { g with pc := g.pc + 3, stack := r.toList ++ rest }) t → Steps p.tables e below (T.setTop g) t := by
  obtain ⟨cq, kq, qa, qb, qc⟩ := isOf hZ eT E
  obtain ⟨v, vm₁, ⟨T1, L1, k1, n1⟩, hw1, X1, ⟨Lc, hQ, l1, y1, z1⟩, st⟩ := X.virtualBack hx (y := y) (z := z) hown (mvT hZ wl) (mvT hZ wd) hnf (mvT hZ wsel) (mvT hZ win) hy (backOf (W := W) hM hZ wc wi hf hl) qa qc hg hsize (Steps.refl _) hlen hstack hW hdg (fun _ _ => ⟨rfl, eT, by rw [hrc]; exact hcl, by rw [hrs]; exact hsl⟩)
  dsimp only [Pt.U, Pt.locs, Pt.cells, Pt.slots] at X1 l1 y1 z1 st hQ
  obtain ⟨rfl, rfl, hh⟩ := hQ
  subst l1 y1 z1
  rw [List.append_nil, hrc, hrs, Nat.add_zero, Nat.add_zero] at X1
  exact ⟨T1, X1, hh, fun t k => st.trans k⟩
/-- what a law that makes objects leaves: true, and nothing old written -/
def own_one (n0 : Nat) : Option Value → Heap → List Loc → Prop := fun v h L => v = some (.int 1) ∧ Fr n0 L
theorem own_callI {Z : State} {a0 : Array Value} {h : Heap} {rm : Room} {W : Nat} {own : String} {index : Nat} {y : MethodName} {bytes : ByteArray} {maxL : Nat} {argsL rest : List Value} {a : Addr}
    (X : Stand p l e R s m args below meth c T locs cells slots) (hx : p.tables.exec = Jvm.exec) (hZ : Z.Warmed39 s.vm) (hown : s.vm.findClass own = some m.cls) (hy1 : y.name = "<init>")
    (wl : (Jvm.Cond.methodLink own index y).before a0 Z = true) (win : (Jvm.Cond.instanceMethod y).before a0 Z = true) (wi : (Jvm.Cond.initialized y.cls).before a0 Z = true) (wc : (Jvm.Cond.code y bytes maxL none).before a0 Z = true)
    (hy : y.cls ≠ "java/lang/invoke/MethodHandle" ∧ y.cls ≠ "java/lang/invoke/VarHandle") (eT : T.heap = h)
    (hM : Pays l Z y bytes maxL none rm (.ref a :: argsL).toArray h (own_pure none h)) (hrc : rm.cells = 0) (hrs : rm.slots = 0) (hcl : cells ≤ R.cells) (hsl : slots ≤ R.slots) (hf : rm.frames + 1 ≤ R.frames) (hl : W + (maxL + 11) + rm.locals ≤ R.locals)
    (hg : g.method = m) (hsize : g.locals.size = c.maxLocals) (hlen : ∀ sig, parseMethodDescriptor y.desc = some sig → argsL.length = sig.parameters.length)
    (hstack : g.stack = argsL.reverse ++ .ref a :: rest) (hW : 2 * g.monitorRoom + (rest.map fun v => v.category).sum ≤ W) (hdg : decode c.code g.pc = .ok (.invokespecial index, 3)) :
    ∃ T', Stand p l e R s m args below meth c T' locs cells slots ∧ T'.heap = h ∧ ∀ t, Steps p.tables e below (T'.setTop { g with pc := g.pc + 3, stack := rest }) t → Steps p.tables e below (T.setTop g) t := by
  obtain ⟨v, vm₁, ⟨T1, L1, k1, n1⟩, hw1, X1, ⟨Lc, hQ, l1, y1, z1⟩, st⟩ := X.specialBack hx (y := y) hy1 hown (mvT hZ wl) (mvT hZ win) (mvT hZ wc) hy (backOf (W := W) hM hZ wc wi hf hl) hg hsize (Steps.refl _) hlen hstack hW hdg (fun _ _ => ⟨rfl, eT, by rw [hrc]; exact hcl, by rw [hrs]; exact hsl⟩)
  dsimp only [Pt.U, Pt.locs, Pt.cells, Pt.slots] at X1 l1 y1 z1 st hQ
  obtain ⟨rfl, rfl, hh⟩ := hQ
  subst l1 y1 z1
  rw [List.append_nil, hrc, hrs, Nat.add_zero, Nat.add_zero] at X1
  exact ⟨T1, X1, hh, fun t k => st.trans k⟩
theorem own_eqi {args : Array Value} {first s : State} {o : Option Outcome} {idx : List Nat} {t : Term} {k : Int32} (h : (Jvm.Cond.eq t (Term.int k)).value args first o s idx = some true) : t.eval args first o idx s = some (.int k) := by
  obtain ⟨x, y, e1, e2, k1, k2⟩ := cmp_v (Or.inl h)
  rw [Term.int_eval] at e2
  cases e2
  obtain ⟨z, rfl⟩ := k2
  have h2 : (Jvm.Cond.eq t (Term.int k)).value args first o s idx = some (decide (z = k)) := by simp [Cond.value, e1, Term.int_eval]
  rw [gotT h2 h] at e1
  exact e1
theorem own_ord {args : Array Value} {s : State} {t : Term} {x : Addr} {C n : String} {k : Int32} (ev : t.eval args s none [] s = some (.ref x)) (h : (Jvm.Cond.eq (Term.field t C n "I") (Term.int k)).value args s none s [] = some true) : Fld s s.heap x C n "I" (.int k) :=
  Fld.start ((fld_at ev).symm.trans (own_eqi h))
theorem own_sta_keep {Z : State} {h h' : Heap} {C n d D : String} {v : Value} {a : Addr} (F : Sta Z h C n d v) (K : Keep h h' [a]) (E : Exa Z h a D) : Sta Z h' C n d v := by
  obtain ⟨cf, i, k, f, st, cell, h1, h2, h3, h4, h5, h6, h7⟩ := F
  refine ⟨cf, i, k, f, st, cell, h1, h2, h3, h4, K.2.1 st cell h5 (fun q => ?_), h6, h7⟩
  obtain ⟨cell', k', g1, -, -, g4, -⟩ := E
  cases List.mem_singleton.mp q
  rw [h5] at g1
  cases g1
  rw [h6] at g4
  cases g4
end OwnKit
theorem ef_vb (m : MethodId) (x0 : Int32) : entryFrame m #[(.int x0)] 1 = mkF m 0 #[.val (.int x0)] [] := by first | (simp [entryFrame, mkF, argsToLocals, Value.category]; done) | rfl
theorem pn_0 : plainName "com/example/folioscope/folioscope/image/TiffDirectory" = true := by first | (simp [plainName, overriddenIn]; done) | decide +kernel
theorem d_vb_0 : decode prog_86_method_16_code 0 = .ok (.iload_n 0, 1) := by decide +kernel
theorem d_vb_1 : decode prog_86_method_16_code 1 = .ok (.tableswitch 104 1 18 #[87, 87, 91, 95, 99, 87, 87, 91, 95, 99, 95, 99, 95, 104, 104, 99, 99, 99], 87) := by decide +kernel
theorem d_vb_105 : decode prog_86_method_16_code 105 = .ok (.iconst 0, 1) := by decide +kernel
theorem d_vb_106 : decode prog_86_method_16_code 106 = .ok (.ireturn, 1) := by decide +kernel
theorem d_vb_88 : decode prog_86_method_16_code 88 = .ok (.iconst 1, 1) := by decide +kernel
theorem d_vb_89 : decode prog_86_method_16_code 89 = .ok (.goto 17, 3) := by decide +kernel
theorem d_vb_92 : decode prog_86_method_16_code 92 = .ok (.iconst 2, 1) := by decide +kernel
theorem d_vb_93 : decode prog_86_method_16_code 93 = .ok (.goto 13, 3) := by decide +kernel
theorem d_vb_96 : decode prog_86_method_16_code 96 = .ok (.iconst 4, 1) := by decide +kernel
theorem d_vb_97 : decode prog_86_method_16_code 97 = .ok (.goto 9, 3) := by decide +kernel
theorem d_vb_100 : decode prog_86_method_16_code 100 = .ok (.bipush 8, 2) := by decide +kernel
theorem d_vb_102 : decode prog_86_method_16_code 102 = .ok (.goto 4, 3) := by decide +kernel
theorem ef_pc (m : MethodId) (x0 : Int32) (x1 : Int32) (x2 : Value) (hx2 : x2.category = 1) : entryFrame m #[(.int x0), (.int x1), x2] 3 = mkF m 0 #[.val (.int x0), .val (.int x1), .val x2] [] := by cases x2 <;> first | (simp [entryFrame, mkF, argsToLocals, Value.category]; done) | rfl | (simp [Value.category] at hx2; done)
theorem pn_1 : plainName "jdk/internal/util/Preconditions" = true := by first | (simp [plainName, overriddenIn]; done) | decide +kernel
theorem d_pc_0 : decode jdk_41_method_11_code 0 = .ok (.iload_n 0, 1) := by decide +kernel
theorem d_pc_1 : decode jdk_41_method_11_code 1 = .ok (.ifCond .lt 8, 3) := by decide +kernel
theorem d_pc_4 : decode jdk_41_method_11_code 4 = .ok (.iload_n 0, 1) := by decide +kernel
theorem d_pc_5 : decode jdk_41_method_11_code 5 = .ok (.iload_n 1, 1) := by decide +kernel
theorem d_pc_6 : decode jdk_41_method_11_code 6 = .ok (.if_icmp .lt 10, 3) := by decide +kernel
theorem d_pc_16 : decode jdk_41_method_11_code 16 = .ok (.iload_n 0, 1) := by decide +kernel
theorem d_pc_17 : decode jdk_41_method_11_code 17 = .ok (.ireturn, 1) := by decide +kernel
theorem ef_ci (m : MethodId) (x0 : Int32) (x1 : Int32) : entryFrame m #[(.int x0), (.int x1)] 2 = mkF m 0 #[.val (.int x0), .val (.int x1)] [] := by first | (simp [entryFrame, mkF, argsToLocals, Value.category]; done) | rfl
theorem pn_2 : plainName "java/lang/String" = true := by first | (simp [plainName, overriddenIn]; done) | decide +kernel
theorem d_ci_0 : decode jdk_42_method_155_code 0 = .ok (.iload_n 0, 1) := by decide +kernel
theorem d_ci_1 : decode jdk_42_method_155_code 1 = .ok (.iload_n 1, 1) := by decide +kernel
theorem d_ci_2 : decode jdk_42_method_155_code 2 = .ok (.getstatic 1053, 3) := by decide +kernel
theorem d_ci_5 : decode jdk_42_method_155_code 5 = .ok (.invokestatic 1059, 3) := by decide +kernel
theorem pd_0 : parseMethodDescriptor "(IILjava/util/function/BiFunction;)I" = some ⟨[.int, .int, (.object "java/util/function/BiFunction")], some .int⟩ := by decide +kernel
theorem d_ci_8 : decode jdk_42_method_155_code 8 = .ok (.pop, 1) := by decide +kernel
theorem d_ci_9 : decode jdk_42_method_155_code 9 = .ok (.return_, 1) := by decide +kernel
theorem ef_l1 (m : MethodId) (x0 : Addr) (x1 : Int32) : entryFrame m #[(.ref x0), (.int x1)] 2 = mkF m 0 #[.val (.ref x0), .val (.int x1)] [] := by first | (simp [entryFrame, mkF, argsToLocals, Value.category]; done) | rfl
theorem pn_3 : plainName "java/lang/StringLatin1" = true := by first | (simp [plainName, overriddenIn]; done) | decide +kernel
theorem d_l1_0 : decode jdk_43_method_2_code 0 = .ok (.iload_n 1, 1) := by decide +kernel
theorem d_l1_1 : decode jdk_43_method_2_code 1 = .ok (.aload_n 0, 1) := by decide +kernel
theorem d_l1_2 : decode jdk_43_method_2_code 2 = .ok (.arraylength, 1) := by decide +kernel
theorem d_l1_3 : decode jdk_43_method_2_code 3 = .ok (.invokestatic 9, 3) := by decide +kernel
theorem pd_1 : parseMethodDescriptor "(II)V" = some ⟨[.int, .int], none⟩ := by decide +kernel
theorem d_l1_6 : decode jdk_43_method_2_code 6 = .ok (.aload_n 0, 1) := by decide +kernel
theorem d_l1_7 : decode jdk_43_method_2_code 7 = .ok (.iload_n 1, 1) := by decide +kernel
theorem d_l1_8 : decode jdk_43_method_2_code 8 = .ok (.baload, 1) := by decide +kernel
theorem d_l1_9 : decode jdk_43_method_2_code 9 = .ok (.sipush 255, 3) := by decide +kernel
theorem d_l1_12 : decode jdk_43_method_2_code 12 = .ok (.iand, 1) := by decide +kernel
theorem d_l1_13 : decode jdk_43_method_2_code 13 = .ok (.i2c, 1) := by decide +kernel
theorem d_l1_14 : decode jdk_43_method_2_code 14 = .ok (.ireturn, 1) := by decide +kernel
theorem ef_il (m : MethodId) (x0 : Addr) : entryFrame m #[(.ref x0)] 1 = mkF m 0 #[.val (.ref x0)] [] := by first | (simp [entryFrame, mkF, argsToLocals, Value.category]; done) | rfl
theorem d_il_0 : decode jdk_42_method_154_code 0 = .ok (.getstatic 38, 3) := by decide +kernel
theorem d_il_3 : decode jdk_42_method_154_code 3 = .ok (.ifCond .eq 14, 3) := by decide +kernel
theorem d_il_6 : decode jdk_42_method_154_code 6 = .ok (.aload_n 0, 1) := by decide +kernel
theorem d_il_7 : decode jdk_42_method_154_code 7 = .ok (.getfield 15, 3) := by decide +kernel
theorem d_il_10 : decode jdk_42_method_154_code 10 = .ok (.ifCond .ne 7, 3) := by decide +kernel
theorem d_il_13 : decode jdk_42_method_154_code 13 = .ok (.iconst 1, 1) := by decide +kernel
theorem d_il_14 : decode jdk_42_method_154_code 14 = .ok (.goto 4, 3) := by decide +kernel
theorem d_il_18 : decode jdk_42_method_154_code 18 = .ok (.ireturn, 1) := by decide +kernel
theorem ef_ca (m : MethodId) (x0 : Addr) (x1 : Int32) : entryFrame m #[(.ref x0), (.int x1)] 2 = mkF m 0 #[.val (.ref x0), .val (.int x1)] [] := by first | (simp [entryFrame, mkF, argsToLocals, Value.category]; done) | rfl
theorem d_ca_0 : decode jdk_42_method_56_code 0 = .ok (.aload_n 0, 1) := by decide +kernel
theorem d_ca_1 : decode jdk_42_method_56_code 1 = .ok (.invokevirtual 492, 3) := by decide +kernel
theorem pd_2 : parseMethodDescriptor "()Z" = some ⟨[], some .boolean⟩ := by decide +kernel
theorem d_ca_4 : decode jdk_42_method_56_code 4 = .ok (.ifCond .eq 12, 3) := by decide +kernel
theorem d_ca_7 : decode jdk_42_method_56_code 7 = .ok (.aload_n 0, 1) := by decide +kernel
theorem d_ca_8 : decode jdk_42_method_56_code 8 = .ok (.getfield 9, 3) := by decide +kernel
theorem d_ca_11 : decode jdk_42_method_56_code 11 = .ok (.iload_n 1, 1) := by decide +kernel
theorem d_ca_12 : decode jdk_42_method_56_code 12 = .ok (.invokestatic 495, 3) := by decide +kernel
theorem pd_3 : parseMethodDescriptor "([BI)C" = some ⟨[(.array .byte), .int], some .char⟩ := by decide +kernel
theorem d_ca_15 : decode jdk_42_method_56_code 15 = .ok (.ireturn, 1) := by decide +kernel
theorem ef_ex (m : MethodId) (x0 : Int32) : entryFrame m #[(.int x0)] 2 = mkF m 0 #[.val (.int x0), .unset] [] := by first | (simp [entryFrame, mkF, argsToLocals, Value.category]; done) | rfl
theorem pn_4 : plainName "com/example/folioscope/folioscope/image/TiffDirectoryValueBytesPinLaw" = true := by first | (simp [plainName, overriddenIn]; done) | decide +kernel
theorem d_ex_0 : decode method_2_code 0 = .ok (.iload_n 0, 1) := by decide +kernel
theorem d_ex_1 : decode method_2_code 1 = .ok (.ifCond .lt 9, 3) := by decide +kernel
theorem d_ex_10 : decode method_2_code 10 = .ok (.iconst 0, 1) := by decide +kernel
theorem d_ex_11 : decode method_2_code 11 = .ok (.ireturn, 1) := by decide +kernel
theorem d_ex_4 : decode method_2_code 4 = .ok (.iload_n 0, 1) := by decide +kernel
theorem d_ex_5 : decode method_2_code 5 = .ok (.bipush 18, 2) := by decide +kernel
theorem d_ex_7 : decode method_2_code 7 = .ok (.if_icmp .le 5, 3) := by decide +kernel
theorem d_ex_12 : decode method_2_code 12 = .ok (.ldc 7, 2) := by decide +kernel
theorem d_ex_14 : decode method_2_code 14 = .ok (.astore_n 1, 1) := by decide +kernel
theorem d_ex_15 : decode method_2_code 15 = .ok (.aload_n 1, 1) := by decide +kernel
theorem d_ex_16 : decode method_2_code 16 = .ok (.iload_n 0, 1) := by decide +kernel
theorem d_ex_17 : decode method_2_code 17 = .ok (.invokevirtual 9, 3) := by decide +kernel
theorem pd_4 : parseMethodDescriptor "(I)C" = some ⟨[.int], some .char⟩ := by decide +kernel
theorem d_ex_20 : decode method_2_code 20 = .ok (.bipush 48, 2) := by decide +kernel
theorem d_ex_22 : decode method_2_code 22 = .ok (.isub, 1) := by decide +kernel
theorem d_ex_23 : decode method_2_code 23 = .ok (.ireturn, 1) := by decide +kernel
theorem ef_law (m : MethodId) (x0 : Int32) (x1 : Int32) : entryFrame m #[(.int x0), (.int x1)] maxLocals = mkF m 0 #[.val (.int x0), .val (.int x1), .unset, .unset, .unset] [] := by first | (simp [entryFrame, mkF, argsToLocals, Value.category, maxLocals]; done) | rfl
theorem pd_5 : parseMethodDescriptor "(I)I" = some ⟨[.int], some .int⟩ := by decide +kernel
/-! the same walk where a String constant may be resolved on the way: the wide end -/
def GoesW (p : Program) (e : Env) (below : List Frame) (s : State) (D : State → Prop) (Q : Option Value → Heap → List Loc → Prop) (k n : Nat) (T : State) (g : JFrame) : Prop :=
  ∃ s₂ o, Steps p.tables e below (T.setTop g) s₂ ∧ s₂.status = .running ∧ Ended s₂ below o ∧ ∃ v L, o = .returned v ∧ Q v s₂.heap L ∧ D s₂ ∧ ReturnedEndW s o s₂ L k n
section OwnWide
variable {p : Program} {l : Launch} {e : Env} {R : Room} {s : State} {m : MethodId} {args : Array Value} {below : List Frame} {meth : Method} {c : Code} {T T' : State} {locs : List Loc} {cells slots : Nat} {D : State → Prop} {Q : Option Value → Heap → List Loc → Prop} {k n : Nat} {g g' : JFrame}
theorem own_goW (f : ∀ t, Steps p.tables e below (T'.setTop g') t → Steps p.tables e below (T.setTop g) t) (h : GoesW p e below s D Q k n T' g') : GoesW p e below s D Q k n T g := by
  obtain ⟨a, b, h1, r⟩ := h
  exact ⟨a, b, f _ h1, r⟩
theorem own_trW (f : Steps p.tables e below (T.setTop g) (T'.setTop g')) (h : GoesW p e below s D Q k n T' g') : GoesW p e below s D Q k n T g := by
  obtain ⟨a, b, h1, r⟩ := h
  exact ⟨a, b, f.trans h1, r⟩
theorem own_monoW {o : Outcome} {t : State} {L : List Loc} {k k' n n' : Nat} (h : ReturnedEndW s o t L k n) (h1 : k ≤ k') (h2 : n ≤ n') : ReturnedEndW s o t L k' n' := ⟨h.1, h.2.1, h.2.2.1, h.2.2.2.mono h1 h2⟩
theorem own_retIW {vm₁ : Vm} {j : Nat} (X : Stand p l e R (s.setVm vm₁) m args below meth c T locs cells slots) (hx : p.tables.exec = Jvm.exec) (hS : s.Since vm₁ j) (hj : j ≤ T.heap.size) {pc : Nat} {Ls : Array Slot} {z : Int32} {t : FieldType} {rest : List Value} (hret : meth.sig.returnType = some t) (ht : t = .int ∨ (t = .boolean ∧ (z = 0 ∨ z = 1))) (hlocks : meth.locks = false)
    (hd : decode c.code pc = .ok (.ireturn, 1)) (hQ : Q (some (.int z)) T.heap locs) (hD : ∀ fs, D (T.setFrames fs)) (hc : cells ≤ k) (hs : slots ≤ n) : GoesW p e below s D Q k n T (mkF m pc Ls (.int z :: rest)) := by
  obtain ⟨fs, hr, hrun, hended, hW⟩ := X.leaveW hS hj (v := some (.int z)) (fun h => by rw [hret] at h; cases h) hlocks
  refine ⟨_, _, retOut X hx hret ?_ (Or.inl ⟨rfl, ?_, z, rfl⟩) hd hr, hrun, hended, _, _, rfl, hQ, hD fs, own_monoW hW hc hs⟩
  · rcases ht with rfl | ⟨rfl, rfl | rfl⟩ <;> rfl
  · rcases ht with rfl | ⟨rfl, -⟩
    · exact Or.inl rfl
    · exact Or.inr (Or.inl rfl)
end OwnWide

theorem own_retC {p : Program} {l : Launch} {e : Env} {R : Room} {s : State} {m : MethodId} {args : Array Value} {below : List Frame} {meth : Method} {c : Code} {T : State} {locs : List Loc} {cells slots : Nat} {Q : Option Value → Heap → List Loc → Prop} {k n : Nat} (X : Stand p l e R s m args below meth c T locs cells slots) (hx : p.tables.exec = Jvm.exec) {pc : Nat} {Ls : Array Slot} {z : Int32} {rest : List Value} (hret : meth.sig.returnType = some .char) (hlocks : meth.locks = false) (hn : narrow .char (.int z) = .int z)
    (hd : decode c.code pc = .ok (.ireturn, 1)) (hQ : Q (some (.int z)) T.heap locs) (hc : cells ≤ k) (hs : slots ≤ n) : Goes p e below s Q k n T (mkF m pc Ls (.int z :: rest)) :=
  own_ret X hx hret hlocks hn (Or.inl ⟨rfl, Or.inr (Or.inr (Or.inr (Or.inl rfl))), z, rfl⟩) hd hQ hc hs
def own_tab : List Int32 := [0, 1, 1, 2, 4, 8, 1, 1, 2, 4, 8, 4, 8, 4, 0, 0, 8, 8, 8]
def own_vb (t : Int32) : Int32 := if t.toInt < 1 ∨ 18 < t.toInt then (0 : Int32) else own_tab.getD t.toInt.toNat 0
def own_bytes : List Value := [.int 48, .int 49, .int 49, .int 50, .int 52, .int 56, .int 49, .int 49, .int 50, .int 52, .int 56, .int 52, .int 56, .int 52, .int 48, .int 48, .int 56, .int 56, .int 56]
def own_ch (t : Int32) : Int32 := (48 : Int32) + own_tab.getD t.toInt.toNat 0
theorem own_nineteen {t : Int32} (h1 : ¬ t < (0 : Int32)) (h2 : ¬ (18 : Int32) < t) : t.toInt = 0 ∨ t.toInt = 1 ∨ t.toInt = 2 ∨ t.toInt = 3 ∨ t.toInt = 4 ∨ t.toInt = 5 ∨ t.toInt = 6 ∨ t.toInt = 7 ∨ t.toInt = 8 ∨ t.toInt = 9 ∨ t.toInt = 10 ∨ t.toInt = 11 ∨ t.toInt = 12 ∨ t.toInt = 13 ∨ t.toInt = 14 ∨ t.toInt = 15 ∨ t.toInt = 16 ∨ t.toInt = 17 ∨ t.toInt = 18 := by
  have c0 : (0 : Int32).toInt = 0 := by decide
  have c18 : (18 : Int32).toInt = 18 := by decide
  rw [Int32.lt_iff_toInt_lt] at h1 h2
  omega
theorem own_eighteen (t : Int32) : (t.toInt < 1 ∨ t.toInt > 18) ∨ t.toInt = 1 ∨ t.toInt = 2 ∨ t.toInt = 3 ∨ t.toInt = 4 ∨ t.toInt = 5 ∨ t.toInt = 6 ∨ t.toInt = 7 ∨ t.toInt = 8 ∨ t.toInt = 9 ∨ t.toInt = 10 ∨ t.toInt = 11 ∨ t.toInt = 12 ∨ t.toInt = 13 ∨ t.toInt = 14 ∨ t.toInt = 15 ∨ t.toInt = 16 ∨ t.toInt = 17 ∨ t.toInt = 18 := by omega
theorem own_at {t : Int32} (h1 : ¬ t < (0 : Int32)) (h2 : ¬ (18 : Int32) < t) : own_bytes.getD t.toNatClampNeg (.int 0) = .int (own_ch t) := by
  show own_bytes.getD t.toInt.toNat (.int 0) = _
  rw [own_ch]
  rcases own_nineteen h1 h2 with h | h | h | h | h | h | h | h | h | h | h | h | h | h | h | h | h | h | h <;> rw [h] <;> rfl
theorem own_chk {t : Int32} (h1 : ¬ t < (0 : Int32)) (h2 : ¬ (18 : Int32) < t) : own_ch t &&& (255 : Int32) = own_ch t ∧ narrow .char (.int (own_ch t)) = .int (own_ch t) ∧ own_ch t - (48 : Int32) = own_vb t := by
  rw [own_ch, own_vb]
  rcases own_nineteen h1 h2 with h | h | h | h | h | h | h | h | h | h | h | h | h | h | h | h | h | h | h <;> rw [h] <;> exact ⟨by decide, rfl, by decide⟩
theorem own_lt19 {t : Int32} (h2 : ¬ (18 : Int32) < t) : t < (19 : Int32) := by
  have c18 : (18 : Int32).toInt = 18 := by decide
  have c19 : (19 : Int32).toInt = 19 := by decide
  rw [Int32.lt_iff_toInt_lt] at h2 ⊢
  omega
set_option maxRecDepth 65536 in
set_option maxHeartbeats 40000000 in
theorem rm_vb (l : Launch) (Z : State) (a0 : Array Value) (hw : ∀ d ∈ tables_1, d.before a0 Z = true) (t : Int32) (h0 : Heap)  :
    Pays l Z (⟨"com/example/folioscope/folioscope/image/TiffDirectory", "valueBytes", "(I)I"⟩ : MethodName) prog_86_method_16_code 1 (some .int) ({ frames := 0, cells := 0, slots := 0, locals := 0 } : Room) #[(.int t)] h0 (own_pure (some (.int (own_vb t))) h0) := by
  refine MetFree.of_bodySF (plainFor_of_name pn_0) hisR ?_
  intro p e s m args below meth c s₁ Bd hml0 hP hK
  obtain ⟨rfl, hZ, hh⟩ := hP
  have hx := Bd.exec
  have hby := Bd.bytes
  have hml : c.maxLocals = 1 := hml0
  have hown : s.vm.findClass "com/example/folioscope/folioscope/image/TiffDirectory" = some m.cls := findClass_of_methodNamed Bd.named
  have hnm := (name_of_methodNamed Bd.named Bd.method).1
  have hlk : meth.locks = false := BodyLoose.notSynchronized Bd
  have X0 : Stand p l e ({ frames := 0, cells := 0, slots := 0, locals := 0 } : Room) s m #[(.int t)] below meth c s₁ [] 0 0 := Stand.of_body Bd
  have e0 : s₁.heap = h0 := by rw [← hh, Bd.state]; rfl
  show Goes p e below s (own_pure (some (.int (own_vb t))) h0) ({ frames := 0, cells := 0, slots := 0, locals := 0 } : Room).cells ({ frames := 0, cells := 0, slots := 0, locals := 0 } : Room).slots s₁ (entryFrame m #[(.int t)] 1)
  rw [ef_vb m t]
  rcases own_eighteen t with h | h | h | h | h | h | h | h | h | h | h | h | h | h | h | h | h | h | h
  · refine own_go (T' := s₁) (g' := (mkF m 1 #[.val (.int t)] [(.int t)])) (fun t_ K => XS.iloadN X0.here hx rfl (hb hby d_vb_0) rfl K) ?_
    refine own_go (T' := s₁) (g' := (mkF m 105 #[.val (.int t)] [])) (fun t_ K => XS.tswOut X0.here hx rfl (pc0 := 1) (pc' := 105) rfl (hb hby d_vb_1) rfl h (by decide) (by decide) K) ?_
    refine own_go (T' := s₁) (g' := (mkF m 106 #[.val (.int t)] [(.int (0 : Int32))])) (fun t_ K => XS.iconst X0.here hx rfl (hb hby d_vb_105) K) ?_
    exact own_retI X0 hx Bd.returns hlk (hb hby d_vb_106) ⟨(by rw [own_vb, if_pos h]), rfl, e0⟩ (by decide) (by decide)
  · refine own_go (T' := s₁) (g' := (mkF m 1 #[.val (.int t)] [(.int t)])) (fun t_ K => XS.iloadN X0.here hx rfl (hb hby d_vb_0) rfl K) ?_
    refine own_go (T' := s₁) (g' := (mkF m 88 #[.val (.int t)] [])) (fun t_ K => XS.tswIn X0.here hx rfl (pc0 := 1) (pc' := 88) rfl (hb hby d_vb_1) rfl (by rw [h]; decide) (o := 87) (by rw [h]; rfl) (by decide) (by decide) K) ?_
    refine own_go (T' := s₁) (g' := (mkF m 89 #[.val (.int t)] [(.int (1 : Int32))])) (fun t_ K => XS.iconst X0.here hx rfl (hb hby d_vb_88) K) ?_
    refine own_go (T' := s₁) (g' := (mkF m 106 #[.val (.int t)] [(.int (1 : Int32))])) (fun t_ K => XS.goto X0.here hx rfl (pc0 := 89) (pc' := 106) rfl (hb hby d_vb_89) (by decide) (by decide) K) ?_
    exact own_retI X0 hx Bd.returns hlk (hb hby d_vb_106) ⟨(by rw [own_vb, h]; rfl), rfl, e0⟩ (by decide) (by decide)
  · refine own_go (T' := s₁) (g' := (mkF m 1 #[.val (.int t)] [(.int t)])) (fun t_ K => XS.iloadN X0.here hx rfl (hb hby d_vb_0) rfl K) ?_
    refine own_go (T' := s₁) (g' := (mkF m 88 #[.val (.int t)] [])) (fun t_ K => XS.tswIn X0.here hx rfl (pc0 := 1) (pc' := 88) rfl (hb hby d_vb_1) rfl (by rw [h]; decide) (o := 87) (by rw [h]; rfl) (by decide) (by decide) K) ?_
    refine own_go (T' := s₁) (g' := (mkF m 89 #[.val (.int t)] [(.int (1 : Int32))])) (fun t_ K => XS.iconst X0.here hx rfl (hb hby d_vb_88) K) ?_
    refine own_go (T' := s₁) (g' := (mkF m 106 #[.val (.int t)] [(.int (1 : Int32))])) (fun t_ K => XS.goto X0.here hx rfl (pc0 := 89) (pc' := 106) rfl (hb hby d_vb_89) (by decide) (by decide) K) ?_
    exact own_retI X0 hx Bd.returns hlk (hb hby d_vb_106) ⟨(by rw [own_vb, h]; rfl), rfl, e0⟩ (by decide) (by decide)
  · refine own_go (T' := s₁) (g' := (mkF m 1 #[.val (.int t)] [(.int t)])) (fun t_ K => XS.iloadN X0.here hx rfl (hb hby d_vb_0) rfl K) ?_
    refine own_go (T' := s₁) (g' := (mkF m 92 #[.val (.int t)] [])) (fun t_ K => XS.tswIn X0.here hx rfl (pc0 := 1) (pc' := 92) rfl (hb hby d_vb_1) rfl (by rw [h]; decide) (o := 91) (by rw [h]; rfl) (by decide) (by decide) K) ?_
    refine own_go (T' := s₁) (g' := (mkF m 93 #[.val (.int t)] [(.int (2 : Int32))])) (fun t_ K => XS.iconst X0.here hx rfl (hb hby d_vb_92) K) ?_
    refine own_go (T' := s₁) (g' := (mkF m 106 #[.val (.int t)] [(.int (2 : Int32))])) (fun t_ K => XS.goto X0.here hx rfl (pc0 := 93) (pc' := 106) rfl (hb hby d_vb_93) (by decide) (by decide) K) ?_
    exact own_retI X0 hx Bd.returns hlk (hb hby d_vb_106) ⟨(by rw [own_vb, h]; rfl), rfl, e0⟩ (by decide) (by decide)
  · refine own_go (T' := s₁) (g' := (mkF m 1 #[.val (.int t)] [(.int t)])) (fun t_ K => XS.iloadN X0.here hx rfl (hb hby d_vb_0) rfl K) ?_
    refine own_go (T' := s₁) (g' := (mkF m 96 #[.val (.int t)] [])) (fun t_ K => XS.tswIn X0.here hx rfl (pc0 := 1) (pc' := 96) rfl (hb hby d_vb_1) rfl (by rw [h]; decide) (o := 95) (by rw [h]; rfl) (by decide) (by decide) K) ?_
    refine own_go (T' := s₁) (g' := (mkF m 97 #[.val (.int t)] [(.int (4 : Int32))])) (fun t_ K => XS.iconst X0.here hx rfl (hb hby d_vb_96) K) ?_
    refine own_go (T' := s₁) (g' := (mkF m 106 #[.val (.int t)] [(.int (4 : Int32))])) (fun t_ K => XS.goto X0.here hx rfl (pc0 := 97) (pc' := 106) rfl (hb hby d_vb_97) (by decide) (by decide) K) ?_
    exact own_retI X0 hx Bd.returns hlk (hb hby d_vb_106) ⟨(by rw [own_vb, h]; rfl), rfl, e0⟩ (by decide) (by decide)
  · refine own_go (T' := s₁) (g' := (mkF m 1 #[.val (.int t)] [(.int t)])) (fun t_ K => XS.iloadN X0.here hx rfl (hb hby d_vb_0) rfl K) ?_
    refine own_go (T' := s₁) (g' := (mkF m 100 #[.val (.int t)] [])) (fun t_ K => XS.tswIn X0.here hx rfl (pc0 := 1) (pc' := 100) rfl (hb hby d_vb_1) rfl (by rw [h]; decide) (o := 99) (by rw [h]; rfl) (by decide) (by decide) K) ?_
    refine own_go (T' := s₁) (g' := (mkF m 102 #[.val (.int t)] [(.int (8 : Int32))])) (fun t_ K => XS.bipush X0.here hx rfl (hb hby d_vb_100) K) ?_
    refine own_go (T' := s₁) (g' := (mkF m 106 #[.val (.int t)] [(.int (8 : Int32))])) (fun t_ K => XS.goto X0.here hx rfl (pc0 := 102) (pc' := 106) rfl (hb hby d_vb_102) (by decide) (by decide) K) ?_
    exact own_retI X0 hx Bd.returns hlk (hb hby d_vb_106) ⟨(by rw [own_vb, h]; rfl), rfl, e0⟩ (by decide) (by decide)
  · refine own_go (T' := s₁) (g' := (mkF m 1 #[.val (.int t)] [(.int t)])) (fun t_ K => XS.iloadN X0.here hx rfl (hb hby d_vb_0) rfl K) ?_
    refine own_go (T' := s₁) (g' := (mkF m 88 #[.val (.int t)] [])) (fun t_ K => XS.tswIn X0.here hx rfl (pc0 := 1) (pc' := 88) rfl (hb hby d_vb_1) rfl (by rw [h]; decide) (o := 87) (by rw [h]; rfl) (by decide) (by decide) K) ?_
    refine own_go (T' := s₁) (g' := (mkF m 89 #[.val (.int t)] [(.int (1 : Int32))])) (fun t_ K => XS.iconst X0.here hx rfl (hb hby d_vb_88) K) ?_
    refine own_go (T' := s₁) (g' := (mkF m 106 #[.val (.int t)] [(.int (1 : Int32))])) (fun t_ K => XS.goto X0.here hx rfl (pc0 := 89) (pc' := 106) rfl (hb hby d_vb_89) (by decide) (by decide) K) ?_
    exact own_retI X0 hx Bd.returns hlk (hb hby d_vb_106) ⟨(by rw [own_vb, h]; rfl), rfl, e0⟩ (by decide) (by decide)
  · refine own_go (T' := s₁) (g' := (mkF m 1 #[.val (.int t)] [(.int t)])) (fun t_ K => XS.iloadN X0.here hx rfl (hb hby d_vb_0) rfl K) ?_
    refine own_go (T' := s₁) (g' := (mkF m 88 #[.val (.int t)] [])) (fun t_ K => XS.tswIn X0.here hx rfl (pc0 := 1) (pc' := 88) rfl (hb hby d_vb_1) rfl (by rw [h]; decide) (o := 87) (by rw [h]; rfl) (by decide) (by decide) K) ?_
    refine own_go (T' := s₁) (g' := (mkF m 89 #[.val (.int t)] [(.int (1 : Int32))])) (fun t_ K => XS.iconst X0.here hx rfl (hb hby d_vb_88) K) ?_
    refine own_go (T' := s₁) (g' := (mkF m 106 #[.val (.int t)] [(.int (1 : Int32))])) (fun t_ K => XS.goto X0.here hx rfl (pc0 := 89) (pc' := 106) rfl (hb hby d_vb_89) (by decide) (by decide) K) ?_
    exact own_retI X0 hx Bd.returns hlk (hb hby d_vb_106) ⟨(by rw [own_vb, h]; rfl), rfl, e0⟩ (by decide) (by decide)
  · refine own_go (T' := s₁) (g' := (mkF m 1 #[.val (.int t)] [(.int t)])) (fun t_ K => XS.iloadN X0.here hx rfl (hb hby d_vb_0) rfl K) ?_
    refine own_go (T' := s₁) (g' := (mkF m 92 #[.val (.int t)] [])) (fun t_ K => XS.tswIn X0.here hx rfl (pc0 := 1) (pc' := 92) rfl (hb hby d_vb_1) rfl (by rw [h]; decide) (o := 91) (by rw [h]; rfl) (by decide) (by decide) K) ?_
    refine own_go (T' := s₁) (g' := (mkF m 93 #[.val (.int t)] [(.int (2 : Int32))])) (fun t_ K => XS.iconst X0.here hx rfl (hb hby d_vb_92) K) ?_
    refine own_go (T' := s₁) (g' := (mkF m 106 #[.val (.int t)] [(.int (2 : Int32))])) (fun t_ K => XS.goto X0.here hx rfl (pc0 := 93) (pc' := 106) rfl (hb hby d_vb_93) (by decide) (by decide) K) ?_
    exact own_retI X0 hx Bd.returns hlk (hb hby d_vb_106) ⟨(by rw [own_vb, h]; rfl), rfl, e0⟩ (by decide) (by decide)
  · refine own_go (T' := s₁) (g' := (mkF m 1 #[.val (.int t)] [(.int t)])) (fun t_ K => XS.iloadN X0.here hx rfl (hb hby d_vb_0) rfl K) ?_
    refine own_go (T' := s₁) (g' := (mkF m 96 #[.val (.int t)] [])) (fun t_ K => XS.tswIn X0.here hx rfl (pc0 := 1) (pc' := 96) rfl (hb hby d_vb_1) rfl (by rw [h]; decide) (o := 95) (by rw [h]; rfl) (by decide) (by decide) K) ?_
    refine own_go (T' := s₁) (g' := (mkF m 97 #[.val (.int t)] [(.int (4 : Int32))])) (fun t_ K => XS.iconst X0.here hx rfl (hb hby d_vb_96) K) ?_
    refine own_go (T' := s₁) (g' := (mkF m 106 #[.val (.int t)] [(.int (4 : Int32))])) (fun t_ K => XS.goto X0.here hx rfl (pc0 := 97) (pc' := 106) rfl (hb hby d_vb_97) (by decide) (by decide) K) ?_
    exact own_retI X0 hx Bd.returns hlk (hb hby d_vb_106) ⟨(by rw [own_vb, h]; rfl), rfl, e0⟩ (by decide) (by decide)
  · refine own_go (T' := s₁) (g' := (mkF m 1 #[.val (.int t)] [(.int t)])) (fun t_ K => XS.iloadN X0.here hx rfl (hb hby d_vb_0) rfl K) ?_
    refine own_go (T' := s₁) (g' := (mkF m 100 #[.val (.int t)] [])) (fun t_ K => XS.tswIn X0.here hx rfl (pc0 := 1) (pc' := 100) rfl (hb hby d_vb_1) rfl (by rw [h]; decide) (o := 99) (by rw [h]; rfl) (by decide) (by decide) K) ?_
    refine own_go (T' := s₁) (g' := (mkF m 102 #[.val (.int t)] [(.int (8 : Int32))])) (fun t_ K => XS.bipush X0.here hx rfl (hb hby d_vb_100) K) ?_
    refine own_go (T' := s₁) (g' := (mkF m 106 #[.val (.int t)] [(.int (8 : Int32))])) (fun t_ K => XS.goto X0.here hx rfl (pc0 := 102) (pc' := 106) rfl (hb hby d_vb_102) (by decide) (by decide) K) ?_
    exact own_retI X0 hx Bd.returns hlk (hb hby d_vb_106) ⟨(by rw [own_vb, h]; rfl), rfl, e0⟩ (by decide) (by decide)
  · refine own_go (T' := s₁) (g' := (mkF m 1 #[.val (.int t)] [(.int t)])) (fun t_ K => XS.iloadN X0.here hx rfl (hb hby d_vb_0) rfl K) ?_
    refine own_go (T' := s₁) (g' := (mkF m 96 #[.val (.int t)] [])) (fun t_ K => XS.tswIn X0.here hx rfl (pc0 := 1) (pc' := 96) rfl (hb hby d_vb_1) rfl (by rw [h]; decide) (o := 95) (by rw [h]; rfl) (by decide) (by decide) K) ?_
    refine own_go (T' := s₁) (g' := (mkF m 97 #[.val (.int t)] [(.int (4 : Int32))])) (fun t_ K => XS.iconst X0.here hx rfl (hb hby d_vb_96) K) ?_
    refine own_go (T' := s₁) (g' := (mkF m 106 #[.val (.int t)] [(.int (4 : Int32))])) (fun t_ K => XS.goto X0.here hx rfl (pc0 := 97) (pc' := 106) rfl (hb hby d_vb_97) (by decide) (by decide) K) ?_
    exact own_retI X0 hx Bd.returns hlk (hb hby d_vb_106) ⟨(by rw [own_vb, h]; rfl), rfl, e0⟩ (by decide) (by decide)
  · refine own_go (T' := s₁) (g' := (mkF m 1 #[.val (.int t)] [(.int t)])) (fun t_ K => XS.iloadN X0.here hx rfl (hb hby d_vb_0) rfl K) ?_
    refine own_go (T' := s₁) (g' := (mkF m 100 #[.val (.int t)] [])) (fun t_ K => XS.tswIn X0.here hx rfl (pc0 := 1) (pc' := 100) rfl (hb hby d_vb_1) rfl (by rw [h]; decide) (o := 99) (by rw [h]; rfl) (by decide) (by decide) K) ?_
    refine own_go (T' := s₁) (g' := (mkF m 102 #[.val (.int t)] [(.int (8 : Int32))])) (fun t_ K => XS.bipush X0.here hx rfl (hb hby d_vb_100) K) ?_
    refine own_go (T' := s₁) (g' := (mkF m 106 #[.val (.int t)] [(.int (8 : Int32))])) (fun t_ K => XS.goto X0.here hx rfl (pc0 := 102) (pc' := 106) rfl (hb hby d_vb_102) (by decide) (by decide) K) ?_
    exact own_retI X0 hx Bd.returns hlk (hb hby d_vb_106) ⟨(by rw [own_vb, h]; rfl), rfl, e0⟩ (by decide) (by decide)
  · refine own_go (T' := s₁) (g' := (mkF m 1 #[.val (.int t)] [(.int t)])) (fun t_ K => XS.iloadN X0.here hx rfl (hb hby d_vb_0) rfl K) ?_
    refine own_go (T' := s₁) (g' := (mkF m 96 #[.val (.int t)] [])) (fun t_ K => XS.tswIn X0.here hx rfl (pc0 := 1) (pc' := 96) rfl (hb hby d_vb_1) rfl (by rw [h]; decide) (o := 95) (by rw [h]; rfl) (by decide) (by decide) K) ?_
    refine own_go (T' := s₁) (g' := (mkF m 97 #[.val (.int t)] [(.int (4 : Int32))])) (fun t_ K => XS.iconst X0.here hx rfl (hb hby d_vb_96) K) ?_
    refine own_go (T' := s₁) (g' := (mkF m 106 #[.val (.int t)] [(.int (4 : Int32))])) (fun t_ K => XS.goto X0.here hx rfl (pc0 := 97) (pc' := 106) rfl (hb hby d_vb_97) (by decide) (by decide) K) ?_
    exact own_retI X0 hx Bd.returns hlk (hb hby d_vb_106) ⟨(by rw [own_vb, h]; rfl), rfl, e0⟩ (by decide) (by decide)
  · refine own_go (T' := s₁) (g' := (mkF m 1 #[.val (.int t)] [(.int t)])) (fun t_ K => XS.iloadN X0.here hx rfl (hb hby d_vb_0) rfl K) ?_
    refine own_go (T' := s₁) (g' := (mkF m 105 #[.val (.int t)] [])) (fun t_ K => XS.tswIn X0.here hx rfl (pc0 := 1) (pc' := 105) rfl (hb hby d_vb_1) rfl (by rw [h]; decide) (o := 104) (by rw [h]; rfl) (by decide) (by decide) K) ?_
    refine own_go (T' := s₁) (g' := (mkF m 106 #[.val (.int t)] [(.int (0 : Int32))])) (fun t_ K => XS.iconst X0.here hx rfl (hb hby d_vb_105) K) ?_
    exact own_retI X0 hx Bd.returns hlk (hb hby d_vb_106) ⟨(by rw [own_vb, h]; rfl), rfl, e0⟩ (by decide) (by decide)
  · refine own_go (T' := s₁) (g' := (mkF m 1 #[.val (.int t)] [(.int t)])) (fun t_ K => XS.iloadN X0.here hx rfl (hb hby d_vb_0) rfl K) ?_
    refine own_go (T' := s₁) (g' := (mkF m 105 #[.val (.int t)] [])) (fun t_ K => XS.tswIn X0.here hx rfl (pc0 := 1) (pc' := 105) rfl (hb hby d_vb_1) rfl (by rw [h]; decide) (o := 104) (by rw [h]; rfl) (by decide) (by decide) K) ?_
    refine own_go (T' := s₁) (g' := (mkF m 106 #[.val (.int t)] [(.int (0 : Int32))])) (fun t_ K => XS.iconst X0.here hx rfl (hb hby d_vb_105) K) ?_
    exact own_retI X0 hx Bd.returns hlk (hb hby d_vb_106) ⟨(by rw [own_vb, h]; rfl), rfl, e0⟩ (by decide) (by decide)
  · refine own_go (T' := s₁) (g' := (mkF m 1 #[.val (.int t)] [(.int t)])) (fun t_ K => XS.iloadN X0.here hx rfl (hb hby d_vb_0) rfl K) ?_
    refine own_go (T' := s₁) (g' := (mkF m 100 #[.val (.int t)] [])) (fun t_ K => XS.tswIn X0.here hx rfl (pc0 := 1) (pc' := 100) rfl (hb hby d_vb_1) rfl (by rw [h]; decide) (o := 99) (by rw [h]; rfl) (by decide) (by decide) K) ?_
    refine own_go (T' := s₁) (g' := (mkF m 102 #[.val (.int t)] [(.int (8 : Int32))])) (fun t_ K => XS.bipush X0.here hx rfl (hb hby d_vb_100) K) ?_
    refine own_go (T' := s₁) (g' := (mkF m 106 #[.val (.int t)] [(.int (8 : Int32))])) (fun t_ K => XS.goto X0.here hx rfl (pc0 := 102) (pc' := 106) rfl (hb hby d_vb_102) (by decide) (by decide) K) ?_
    exact own_retI X0 hx Bd.returns hlk (hb hby d_vb_106) ⟨(by rw [own_vb, h]; rfl), rfl, e0⟩ (by decide) (by decide)
  · refine own_go (T' := s₁) (g' := (mkF m 1 #[.val (.int t)] [(.int t)])) (fun t_ K => XS.iloadN X0.here hx rfl (hb hby d_vb_0) rfl K) ?_
    refine own_go (T' := s₁) (g' := (mkF m 100 #[.val (.int t)] [])) (fun t_ K => XS.tswIn X0.here hx rfl (pc0 := 1) (pc' := 100) rfl (hb hby d_vb_1) rfl (by rw [h]; decide) (o := 99) (by rw [h]; rfl) (by decide) (by decide) K) ?_
    refine own_go (T' := s₁) (g' := (mkF m 102 #[.val (.int t)] [(.int (8 : Int32))])) (fun t_ K => XS.bipush X0.here hx rfl (hb hby d_vb_100) K) ?_
    refine own_go (T' := s₁) (g' := (mkF m 106 #[.val (.int t)] [(.int (8 : Int32))])) (fun t_ K => XS.goto X0.here hx rfl (pc0 := 102) (pc' := 106) rfl (hb hby d_vb_102) (by decide) (by decide) K) ?_
    exact own_retI X0 hx Bd.returns hlk (hb hby d_vb_106) ⟨(by rw [own_vb, h]; rfl), rfl, e0⟩ (by decide) (by decide)
  · refine own_go (T' := s₁) (g' := (mkF m 1 #[.val (.int t)] [(.int t)])) (fun t_ K => XS.iloadN X0.here hx rfl (hb hby d_vb_0) rfl K) ?_
    refine own_go (T' := s₁) (g' := (mkF m 100 #[.val (.int t)] [])) (fun t_ K => XS.tswIn X0.here hx rfl (pc0 := 1) (pc' := 100) rfl (hb hby d_vb_1) rfl (by rw [h]; decide) (o := 99) (by rw [h]; rfl) (by decide) (by decide) K) ?_
    refine own_go (T' := s₁) (g' := (mkF m 102 #[.val (.int t)] [(.int (8 : Int32))])) (fun t_ K => XS.bipush X0.here hx rfl (hb hby d_vb_100) K) ?_
    refine own_go (T' := s₁) (g' := (mkF m 106 #[.val (.int t)] [(.int (8 : Int32))])) (fun t_ K => XS.goto X0.here hx rfl (pc0 := 102) (pc' := 106) rfl (hb hby d_vb_102) (by decide) (by decide) K) ?_
    exact own_retI X0 hx Bd.returns hlk (hb hby d_vb_106) ⟨(by rw [own_vb, h]; rfl), rfl, e0⟩ (by decide) (by decide)
set_option maxRecDepth 65536 in
set_option maxHeartbeats 40000000 in
theorem rm_pc (l : Launch) (Z : State) (a0 : Array Value) (hw : ∀ d ∈ tables_1, d.before a0 Z = true) (i n : Int32) (fv : Value) (h0 : Heap) (hfr : fv.isRef = true) (hfc : fv.category = 1) (hi0 : ¬ i < (0 : Int32)) (hin : i < n) :
    Pays l Z (⟨"jdk/internal/util/Preconditions", "checkIndex", "(IILjava/util/function/BiFunction;)I"⟩ : MethodName) jdk_41_method_11_code 3 (some .int) ({ frames := 0, cells := 0, slots := 0, locals := 0 } : Room) #[(.int i), (.int n), fv] h0 (own_pure (some (.int i)) h0) := by
  refine MetFree.of_bodySF (plainFor_of_name pn_1) hisR ?_
  intro p e s m args below meth c s₁ Bd hml0 hP hK
  obtain ⟨rfl, hZ, hh⟩ := hP
  have hx := Bd.exec
  have hby := Bd.bytes
  have hml : c.maxLocals = 3 := hml0
  have hown : s.vm.findClass "jdk/internal/util/Preconditions" = some m.cls := findClass_of_methodNamed Bd.named
  have hnm := (name_of_methodNamed Bd.named Bd.method).1
  have hlk : meth.locks = false := BodyLoose.notSynchronized Bd
  have X0 : Stand p l e ({ frames := 0, cells := 0, slots := 0, locals := 0 } : Room) s m #[(.int i), (.int n), fv] below meth c s₁ [] 0 0 := Stand.of_body Bd
  have e0 : s₁.heap = h0 := by rw [← hh, Bd.state]; rfl
  show Goes p e below s (own_pure (some (.int i)) h0) ({ frames := 0, cells := 0, slots := 0, locals := 0 } : Room).cells ({ frames := 0, cells := 0, slots := 0, locals := 0 } : Room).slots s₁ (entryFrame m #[(.int i), (.int n), fv] 3)
  rw [ef_pc m i n fv (by assumption)]
  refine own_go (T' := s₁) (g' := (mkF m 1 #[.val (.int i), .val (.int n), .val fv] [(.int i)])) (fun t_ K => XS.iloadN X0.here hx rfl (hb hby d_pc_0) rfl K) ?_
  refine own_go (T' := s₁) (g' := (mkF m 4 #[.val (.int i), .val (.int n), .val fv] [])) (fun t_ K => XS.ifNo X0.here hx rfl (hb hby d_pc_1) rfl ((if0 _ _).trans (flt hi0).1) K) ?_
  refine own_go (T' := s₁) (g' := (mkF m 5 #[.val (.int i), .val (.int n), .val fv] [(.int i)])) (fun t_ K => XS.iloadN X0.here hx rfl (hb hby d_pc_4) rfl K) ?_
  refine own_go (T' := s₁) (g' := (mkF m 6 #[.val (.int i), .val (.int n), .val fv] [(.int n), (.int i)])) (fun t_ K => XS.iloadN X0.here hx rfl (hb hby d_pc_5) rfl K) ?_
  refine own_go (T' := s₁) (g' := (mkF m 16 #[.val (.int i), .val (.int n), .val fv] [])) (fun t_ K => XS.icmpYes X0.here hx rfl (pc0 := 6) (pc' := 16) rfl (hb hby d_pc_6) rfl (tlt hin).1 (by decide) (by decide) K) ?_
  refine own_go (T' := s₁) (g' := (mkF m 17 #[.val (.int i), .val (.int n), .val fv] [(.int i)])) (fun t_ K => XS.iloadN X0.here hx rfl (hb hby d_pc_16) rfl K) ?_
  exact own_retI X0 hx Bd.returns hlk (hb hby d_pc_17) ⟨rfl, rfl, e0⟩ (by decide) (by decide)
set_option maxRecDepth 65536 in
set_option maxHeartbeats 40000000 in
theorem rm_ci (l : Launch) (Z : State) (a0 : Array Value) (hw : ∀ d ∈ tables_1, d.before a0 Z = true) (i n : Int32) (fv : Value) (h0 : Heap) (hfr : fv.isRef = true) (hfc : fv.category = 1) (hi0 : ¬ i < (0 : Int32)) (hin : i < n) (SF : Sta Z h0 "jdk/internal/util/Preconditions" "SIOOBE_FORMATTER" "Ljava/util/function/BiFunction;" fv) :
    Pays l Z (⟨"java/lang/String", "checkIndex", "(II)V"⟩ : MethodName) jdk_42_method_155_code 2 none ({ frames := 1, cells := 0, slots := 0, locals := 14 } : Room) #[(.int i), (.int n)] h0 (own_pure none h0) := by
  refine MetFree.of_bodySF (plainFor_of_name pn_2) hisR ?_
  intro p e s m args below meth c s₁ Bd hml0 hP hK
  obtain ⟨rfl, hZ, hh⟩ := hP
  have hx := Bd.exec
  have hby := Bd.bytes
  have hml : c.maxLocals = 2 := hml0
  have hown : s.vm.findClass "java/lang/String" = some m.cls := findClass_of_methodNamed Bd.named
  have hnm := (name_of_methodNamed Bd.named Bd.method).1
  have hlk : meth.locks = false := BodyLoose.notSynchronized Bd
  have X0 : Stand p l e ({ frames := 1, cells := 0, slots := 0, locals := 14 } : Room) s m #[(.int i), (.int n)] below meth c s₁ [] 0 0 := Stand.of_body Bd
  have e0 : s₁.heap = h0 := by rw [← hh, Bd.state]; rfl
  show Goes p e below s (own_pure none h0) ({ frames := 1, cells := 0, slots := 0, locals := 14 } : Room).cells ({ frames := 1, cells := 0, slots := 0, locals := 14 } : Room).slots s₁ (entryFrame m #[(.int i), (.int n)] 2)
  rw [ef_ci m i n]
  refine own_go (T' := s₁) (g' := (mkF m 1 #[.val (.int i), .val (.int n)] [(.int i)])) (fun t_ K => XS.iloadN X0.here hx rfl (hb hby d_ci_0) rfl K) ?_
  refine own_go (T' := s₁) (g' := (mkF m 2 #[.val (.int i), .val (.int n)] [(.int n), (.int i)])) (fun t_ K => XS.iloadN X0.here hx rfl (hb hby d_ci_1) rfl K) ?_
  obtain ⟨T1, X1, e1, st1⟩ := getS2 X0 hx hZ hown (host := "") (Or.inl (hw _ (List.mem_of_getElem? (i := 36) rfl))) Via.refl e0 SF (g := (mkF m 2 #[.val (.int i), .val (.int n)] [(.int n), (.int i)])) rfl (hb hby d_ci_2)
  refine own_go (T' := T1) (g' := (mkF m 5 #[.val (.int i), .val (.int n)] [fv, (.int n), (.int i)])) (fun t_ K => st1 _ K) ?_
  obtain ⟨T2, X2, e2, st2⟩ := own_callS (W := 0) (rm := { frames := 0, cells := 0, slots := 0, locals := 0 }) X1 hx hZ hown (hw _ (List.mem_of_getElem? (i := 38) rfl)) (hw _ (List.mem_of_getElem? (i := 39) rfl)) (hw _ (List.mem_of_getElem? (i := 37) rfl)) (hw _ (List.mem_of_getElem? (i := 40) rfl)) (by decide) e1 (argsL := [(.int i), (.int n), fv]) (rest := []) (r := some (.int i)) (rm_pc l Z a0 hw i n fv h0 hfr hfc hi0 hin) rfl rfl (by decide) (by decide) (by decide) (by decide) (g := (mkF m 5 #[.val (.int i), .val (.int n)] [fv, (.int n), (.int i)])) rfl (by rw [hml]; rfl) (lenOf pd_0 rfl) rfl (by show 2 * 0 + _ ≤ _; exact Nat.le_of_eq rfl) (hb hby d_ci_5)
  refine own_go (T' := T2) (g' := (mkF m 8 #[.val (.int i), .val (.int n)] [(.int i)])) (fun t_ K => st2 _ K) ?_
  refine own_go (T' := T2) (g' := (mkF m 9 #[.val (.int i), .val (.int n)] [])) (fun t_ K => XT.pop X2.here hx rfl (hb hby d_ci_8) rfl rfl K) ?_
  exact own_retV X2 hx Bd.returns hlk (hb hby d_ci_9) ⟨rfl, rfl, e2⟩ (by decide) (by decide)
set_option maxRecDepth 65536 in
set_option maxHeartbeats 40000000 in
theorem rm_l1 (l : Launch) (Z : State) (a0 : Array Value) (hw : ∀ d ∈ tables_1, d.before a0 Z = true) (b : Addr) (t : Int32) (kc : ClassId) (fv : Value) (h0 : Heap) (h1 : ¬ t < (0 : Int32)) (h2 : ¬ (18 : Int32) < t) (hfr : fv.isRef = true) (hfc : fv.category = 1) (SF : Sta Z h0 "jdk/internal/util/Preconditions" "SIOOBE_FORMATTER" "Ljava/util/function/BiFunction;" fv) (AV : Arv Z h0 b kc .byte (19 : Int32) own_bytes (.int 0)) :
    Pays l Z (⟨"java/lang/StringLatin1", "charAt", "([BI)C"⟩ : MethodName) jdk_43_method_2_code 2 (some .char) ({ frames := 2, cells := 0, slots := 0, locals := 27 } : Room) #[(.ref b), (.int t)] h0 (own_pure (some (.int (own_ch t))) h0) := by
  refine MetFree.of_bodySF (plainFor_of_name pn_3) hisR ?_
  intro p e s m args below meth c s₁ Bd hml0 hP hK
  obtain ⟨rfl, hZ, hh⟩ := hP
  have hx := Bd.exec
  have hby := Bd.bytes
  have hml : c.maxLocals = 2 := hml0
  have hown : s.vm.findClass "java/lang/StringLatin1" = some m.cls := findClass_of_methodNamed Bd.named
  have hnm := (name_of_methodNamed Bd.named Bd.method).1
  have hlk : meth.locks = false := BodyLoose.notSynchronized Bd
  have X0 : Stand p l e ({ frames := 2, cells := 0, slots := 0, locals := 27 } : Room) s m #[(.ref b), (.int t)] below meth c s₁ [] 0 0 := Stand.of_body Bd
  have e0 : s₁.heap = h0 := by rw [← hh, Bd.state]; rfl
  show Goes p e below s (own_pure (some (.int (own_ch t))) h0) ({ frames := 2, cells := 0, slots := 0, locals := 27 } : Room).cells ({ frames := 2, cells := 0, slots := 0, locals := 27 } : Room).slots s₁ (entryFrame m #[(.ref b), (.int t)] 2)
  rw [ef_l1 m b t]
  refine own_go (T' := s₁) (g' := (mkF m 1 #[.val (.ref b), .val (.int t)] [(.int t)])) (fun t_ K => XS.iloadN X0.here hx rfl (hb hby d_l1_0) rfl K) ?_
  refine own_go (T' := s₁) (g' := (mkF m 2 #[.val (.ref b), .val (.int t)] [(.ref b), (.int t)])) (fun t_ K => XS.aloadN X0.here hx rfl (hb hby d_l1_1) rfl rfl K) ?_
  obtain ⟨cl, Ar, q1, Sz, Nn, Hs, Gs⟩ := AV
  refine own_go (T' := s₁) (g' := (mkF m 3 #[.val (.ref b), .val (.int t)] [(.int cl.slots.size.toInt32), (.int t)])) (fun t_ K => X0.arraylength hx (by rw [e0]; exact Ar.1) (State.isArrayOf_alike hZ.alike Ar.2.1) (g := (mkF m 2 #[.val (.ref b), .val (.int t)] [(.ref b), (.int t)])) rfl rfl (hb hby d_l1_2) _ K) ?_
  rw [len_of Sz Nn]
  obtain ⟨T1, X1, e1, st1⟩ := own_callS (W := 0) (rm := { frames := 1, cells := 0, slots := 0, locals := 14 }) X0 hx hZ hown (hw _ (List.mem_of_getElem? (i := 33) rfl)) (hw _ (List.mem_of_getElem? (i := 34) rfl)) (hw _ (List.mem_of_getElem? (i := 9) rfl)) (hw _ (List.mem_of_getElem? (i := 35) rfl)) (by decide) e0 (argsL := [(.int t), (.int (19 : Int32))]) (rest := []) (r := none) (rm_ci l Z a0 hw t (19 : Int32) fv h0 hfr hfc h1 (own_lt19 h2) SF) rfl rfl (by decide) (by decide) (by decide) (by decide) (g := (mkF m 3 #[.val (.ref b), .val (.int t)] [(.int (19 : Int32)), (.int t)])) rfl (by rw [hml]; rfl) (lenOf pd_1 rfl) rfl (by show 2 * 0 + _ ≤ _; exact Nat.le_of_eq rfl) (hb hby d_l1_3)
  refine own_go (T' := T1) (g' := (mkF m 6 #[.val (.ref b), .val (.int t)] [])) (fun t_ K => st1 _ K) ?_
  refine own_go (T' := T1) (g' := (mkF m 7 #[.val (.ref b), .val (.int t)] [(.ref b)])) (fun t_ K => XS.aloadN X1.here hx rfl (hb hby d_l1_6) rfl rfl K) ?_
  refine own_go (T' := T1) (g' := (mkF m 8 #[.val (.ref b), .val (.int t)] [(.int t), (.ref b)])) (fun t_ K => XS.iloadN X1.here hx rfl (hb hby d_l1_7) rfl K) ?_
  have hin : ¬ (t < 0 ∨ cl.slots.size ≤ t.toNatClampNeg) := inb_of Sz ⟨h1, own_lt19 h2⟩
  refine own_go (T' := T1) (g' := (mkF m 9 #[.val (.ref b), .val (.int t)] [(.int (own_ch t))])) (fun t_ K => X1.baloadBytes hx (j := t) (v := (.int (own_ch t))) (by rw [e1]; exact Ar.1) (State.isArrayOf_alike hZ.alike Ar.2.1) Ar.2.2 hin (Has.at Hs hin (own_at h1 h2)) (g := (mkF m 8 #[.val (.ref b), .val (.int t)] [(.int t), (.ref b)])) rfl rfl (hb hby d_l1_8) _ K) ?_
  refine own_go (T' := T1) (g' := (mkF m 12 #[.val (.ref b), .val (.int t)] [(.int (255 : Int32)), (.int (own_ch t))])) (fun t_ K => XS.sipush X1.here hx rfl (hb hby d_l1_9) K) ?_
  refine own_go (T' := T1) (g' := (mkF m 13 #[.val (.ref b), .val (.int t)] [(.int ((own_ch t) &&& (255 : Int32)))])) (fun t_ K => XS.iand X1.here hx rfl (hb hby d_l1_12) rfl K) ?_
  refine own_go (T' := T1) (g' := (mkF m 14 #[.val (.ref b), .val (.int t)] [(.int (((own_ch t) &&& (255 : Int32)).toUInt32.toUInt16.toUInt32.toInt32))])) (fun t_ K => XT.i2c X1.here hx rfl (hb hby d_l1_13) rfl K) ?_
  rw [i2c_mask, (own_chk h1 h2).1]
  exact own_retC X1 hx Bd.returns hlk (own_chk h1 h2).2.1 (hb hby d_l1_14) ⟨rfl, rfl, e1⟩ (by decide) (by decide)
set_option maxRecDepth 65536 in
set_option maxHeartbeats 40000000 in
theorem rm_il (l : Launch) (Z : State) (a0 : Array Value) (hw : ∀ d ∈ tables_1, d.before a0 Z = true) (a : Addr) (cs : Int32) (h0 : Heap) (hcs : ¬ cs = (0 : Int32)) (SC : Sta Z h0 "java/lang/String" "COMPACT_STRINGS" "Z" (.int cs)) (Fc : Fld Z h0 a "java/lang/String" "coder" "B" (.int 0)) :
    Pays l Z (⟨"java/lang/String", "isLatin1", "()Z"⟩ : MethodName) jdk_42_method_154_code 1 (some .boolean) ({ frames := 0, cells := 0, slots := 0, locals := 0 } : Room) #[(.ref a)] h0 (own_pure (some (.int 1)) h0) := by
  refine MetFree.of_bodySF (plainFor_of_name pn_2) hisR ?_
  intro p e s m args below meth c s₁ Bd hml0 hP hK
  obtain ⟨rfl, hZ, hh⟩ := hP
  have hx := Bd.exec
  have hby := Bd.bytes
  have hml : c.maxLocals = 1 := hml0
  have hown : s.vm.findClass "java/lang/String" = some m.cls := findClass_of_methodNamed Bd.named
  have hnm := (name_of_methodNamed Bd.named Bd.method).1
  have hlk : meth.locks = false := BodyLoose.notSynchronized Bd
  have X0 : Stand p l e ({ frames := 0, cells := 0, slots := 0, locals := 0 } : Room) s m #[(.ref a)] below meth c s₁ [] 0 0 := Stand.of_body Bd
  have e0 : s₁.heap = h0 := by rw [← hh, Bd.state]; rfl
  show Goes p e below s (own_pure (some (.int 1)) h0) ({ frames := 0, cells := 0, slots := 0, locals := 0 } : Room).cells ({ frames := 0, cells := 0, slots := 0, locals := 0 } : Room).slots s₁ (entryFrame m #[(.ref a)] 1)
  rw [ef_il m a]
  obtain ⟨T1, X1, e1, st1⟩ := getS2 X0 hx hZ hown (host := "") (Or.inl (hw _ (List.mem_of_getElem? (i := 26) rfl))) Via.refl e0 SC (g := (mkF m 0 #[.val (.ref a)] [])) rfl (hb hby d_il_0)
  refine own_go (T' := T1) (g' := (mkF m 3 #[.val (.ref a)] [(.int cs)])) (fun t_ K => st1 _ K) ?_
  refine own_go (T' := T1) (g' := (mkF m 6 #[.val (.ref a)] [])) (fun t_ K => XS.ifNo X1.here hx rfl (hb hby d_il_3) rfl ((if0 _ _).trans (feq hcs).1) K) ?_
  refine own_go (T' := T1) (g' := (mkF m 7 #[.val (.ref a)] [(.ref a)])) (fun t_ K => XS.aloadN X1.here hx rfl (hb hby d_il_6) rfl rfl K) ?_
  obtain ⟨T2, X2, e2, st2⟩ := getF X1 hx hZ hown (host := "") (Or.inl (hw _ (List.mem_of_getElem? (i := 27) rfl))) Via.refl e1 Fc (g := (mkF m 7 #[.val (.ref a)] [(.ref a)])) rfl rfl (hb hby d_il_7)
  refine own_go (T' := T2) (g' := (mkF m 10 #[.val (.ref a)] [(.int (0 : Int32))])) (fun t_ K => st2 _ K) ?_
  refine own_go (T' := T2) (g' := (mkF m 13 #[.val (.ref a)] [])) (fun t_ K => XS.ifNo X2.here hx rfl (hb hby d_il_10) rfl ((if0 _ _).trans (teq (by decide : (0 : Int32) = (0 : Int32))).2) K) ?_
  refine own_go (T' := T2) (g' := (mkF m 14 #[.val (.ref a)] [(.int (1 : Int32))])) (fun t_ K => XS.iconst X2.here hx rfl (hb hby d_il_13) K) ?_
  refine own_go (T' := T2) (g' := (mkF m 18 #[.val (.ref a)] [(.int (1 : Int32))])) (fun t_ K => XS.goto X2.here hx rfl (pc0 := 14) (pc' := 18) rfl (hb hby d_il_14) (by decide) (by decide) K) ?_
  exact own_retZ X2 hx Bd.returns hlk (Or.inr rfl) (hb hby d_il_18) ⟨rfl, rfl, e2⟩ (by decide) (by decide)
set_option maxRecDepth 65536 in
set_option maxHeartbeats 40000000 in
theorem rm_ca (l : Launch) (Z : State) (a0 : Array Value) (hw : ∀ d ∈ tables_1, d.before a0 Z = true) (a b : Addr) (t : Int32) (kc : ClassId) (fv : Value) (cs : Int32) (h0 : Heap) (h1 : ¬ t < (0 : Int32)) (h2 : ¬ (18 : Int32) < t) (hfr : fv.isRef = true) (hfc : fv.category = 1) (SF : Sta Z h0 "jdk/internal/util/Preconditions" "SIOOBE_FORMATTER" "Ljava/util/function/BiFunction;" fv) (hcs : ¬ cs = (0 : Int32)) (SC : Sta Z h0 "java/lang/String" "COMPACT_STRINGS" "Z" (.int cs)) (Ea : Exa Z h0 a "java/lang/String") (Fc : Fld Z h0 a "java/lang/String" "coder" "B" (.int 0)) (Fv : Fld Z h0 a "java/lang/String" "value" "[B" (.ref b)) (AV : Arv Z h0 b kc .byte (19 : Int32) own_bytes (.int 0)) :
    Pays l Z (⟨"java/lang/String", "charAt", "(I)C"⟩ : MethodName) jdk_42_method_56_code 2 (some .char) ({ frames := 3, cells := 0, slots := 0, locals := 40 } : Room) #[(.ref a), (.int t)] h0 (own_pure (some (.int (own_ch t))) h0) := by
  refine MetFree.of_bodySF (plainFor_of_name pn_2) hisR ?_
  intro p e s m args below meth c s₁ Bd hml0 hP hK
  obtain ⟨rfl, hZ, hh⟩ := hP
  have hx := Bd.exec
  have hby := Bd.bytes
  have hml : c.maxLocals = 2 := hml0
  have hown : s.vm.findClass "java/lang/String" = some m.cls := findClass_of_methodNamed Bd.named
  have hnm := (name_of_methodNamed Bd.named Bd.method).1
  have hlk : meth.locks = false := BodyLoose.notSynchronized Bd
  have X0 : Stand p l e ({ frames := 3, cells := 0, slots := 0, locals := 40 } : Room) s m #[(.ref a), (.int t)] below meth c s₁ [] 0 0 := Stand.of_body Bd
  have e0 : s₁.heap = h0 := by rw [← hh, Bd.state]; rfl
  show Goes p e below s (own_pure (some (.int (own_ch t))) h0) ({ frames := 3, cells := 0, slots := 0, locals := 40 } : Room).cells ({ frames := 3, cells := 0, slots := 0, locals := 40 } : Room).slots s₁ (entryFrame m #[(.ref a), (.int t)] 2)
  rw [ef_ca m a t]
  refine own_go (T' := s₁) (g' := (mkF m 1 #[.val (.ref a), .val (.int t)] [(.ref a)])) (fun t_ K => XS.aloadN X0.here hx rfl (hb hby d_ca_0) rfl rfl K) ?_
  obtain ⟨T1, X1, e1, st1⟩ := own_callV (W := 0) (rm := { frames := 0, cells := 0, slots := 0, locals := 0 }) X0 hx hZ hown (hw _ (List.mem_of_getElem? (i := 21) rfl)) (hw _ (List.mem_of_getElem? (i := 22) rfl)) (hw _ (List.mem_of_getElem? (i := 24) rfl)) (notFace_of_selects (args := #[]) (mvT hZ (hw _ (List.mem_of_getElem? (i := 24) rfl)))) (hw _ (List.mem_of_getElem? (i := 23) rfl)) (hw _ (List.mem_of_getElem? (i := 9) rfl)) (hw _ (List.mem_of_getElem? (i := 25) rfl)) (by decide) e0 Ea (argsL := []) (rest := []) (r := some (.int (1 : Int32))) (rm_il l Z a0 hw a cs h0 hcs SC Fc) rfl rfl (by decide) (by decide) (by decide) (by decide) (g := (mkF m 1 #[.val (.ref a), .val (.int t)] [(.ref a)])) rfl (by rw [hml]; rfl) (lenOf pd_2 rfl) rfl (by show 2 * 0 + _ ≤ _; exact Nat.le_of_eq rfl) (hb hby d_ca_1)
  refine own_go (T' := T1) (g' := (mkF m 4 #[.val (.ref a), .val (.int t)] [(.int (1 : Int32))])) (fun t_ K => st1 _ K) ?_
  refine own_go (T' := T1) (g' := (mkF m 7 #[.val (.ref a), .val (.int t)] [])) (fun t_ K => XS.ifNo X1.here hx rfl (hb hby d_ca_4) rfl ((if0 _ _).trans (feq (by decide : ¬ ((1 : Int32) = (0 : Int32)))).1) K) ?_
  refine own_go (T' := T1) (g' := (mkF m 8 #[.val (.ref a), .val (.int t)] [(.ref a)])) (fun t_ K => XS.aloadN X1.here hx rfl (hb hby d_ca_7) rfl rfl K) ?_
  obtain ⟨T2, X2, e2, st2⟩ := getF X1 hx hZ hown (host := "") (Or.inl (hw _ (List.mem_of_getElem? (i := 28) rfl))) Via.refl e1 Fv (g := (mkF m 8 #[.val (.ref a), .val (.int t)] [(.ref a)])) rfl rfl (hb hby d_ca_8)
  refine own_go (T' := T2) (g' := (mkF m 11 #[.val (.ref a), .val (.int t)] [(.ref b)])) (fun t_ K => st2 _ K) ?_
  refine own_go (T' := T2) (g' := (mkF m 12 #[.val (.ref a), .val (.int t)] [(.int t), (.ref b)])) (fun t_ K => XS.iloadN X2.here hx rfl (hb hby d_ca_11) rfl K) ?_
  obtain ⟨T3, X3, e3, st3⟩ := own_callS (W := 0) (rm := { frames := 2, cells := 0, slots := 0, locals := 27 }) X2 hx hZ hown (hw _ (List.mem_of_getElem? (i := 29) rfl)) (hw _ (List.mem_of_getElem? (i := 30) rfl)) (hw _ (List.mem_of_getElem? (i := 31) rfl)) (hw _ (List.mem_of_getElem? (i := 32) rfl)) (by decide) e2 (argsL := [(.ref b), (.int t)]) (rest := []) (r := some (.int (own_ch t))) (rm_l1 l Z a0 hw b t kc fv h0 h1 h2 hfr hfc SF AV) rfl rfl (by decide) (by decide) (by decide) (by decide) (g := (mkF m 12 #[.val (.ref a), .val (.int t)] [(.int t), (.ref b)])) rfl (by rw [hml]; rfl) (lenOf pd_3 rfl) rfl (by show 2 * 0 + _ ≤ _; exact Nat.le_of_eq rfl) (hb hby d_ca_12)
  refine own_go (T' := T3) (g' := (mkF m 15 #[.val (.ref a), .val (.int t)] [(.int (own_ch t))])) (fun t_ K => st3 _ K) ?_
  exact own_retC X3 hx Bd.returns hlk (own_chk h1 h2).2.1 (hb hby d_ca_15) ⟨rfl, rfl, e3⟩ (by decide) (by decide)
theorem own_EL {Z : State} {a0 : Array Value} (hw : ∀ d ∈ tables_1, d.before a0 Z = true) : EW Z a0 [("com/example/folioscope/folioscope/image/TiffDirectoryValueBytesPinLaw", 7)] := EW.cons (text := "0112481124848400888") (hw _ (List.mem_of_getElem? (i := 8) rfl)) (by decide +kernel) EW.nil
theorem own_sa {Z : State} {a0 : Array Value} (hw : ∀ d ∈ tables_1, d.before a0 Z = true) : ∀ a ∈ Bundle.stringAtoms, a.before a0 Z = true := fun a ha => by
  simp only [Bundle.stringAtoms, List.mem_cons, List.not_mem_nil, or_false] at ha
  rcases ha with rfl | rfl | rfl | rfl | rfl | rfl | rfl
  · exact (hw _ (List.mem_of_getElem? (i := 9) rfl))
  · exact (hw _ (List.mem_of_getElem? (i := 10) rfl))
  · exact (hw _ (List.mem_of_getElem? (i := 11) rfl))
  · exact (hw _ (List.mem_of_getElem? (i := 12) rfl))
  · exact (hw _ (List.mem_of_getElem? (i := 13) rfl))
  · exact (hw _ (List.mem_of_getElem? (i := 14) rfl))
  · exact (hw _ (List.mem_of_getElem? (i := 15) rfl))
theorem own_text : (∀ c ∈ ("0112481124848400888" : String).toList, c.toNat < 256) ∧ ("0112481124848400888" : String).toList.map (fun c => Value.int (Jvm.Lit.byteI c.toNat.toUInt16)) = own_bytes := ⟨by decide +kernel, by decide +kernel⟩
def own_exq (t : Int32) : Option Value → Heap → List Loc → Prop := fun v _ L => v = some (.int (own_vb t)) ∧ L = []
theorem own_neg {t : Int32} (h : t < (0 : Int32)) : t.toInt < 1 := by
  have c0 : (0 : Int32).toInt = 0 := by decide
  rw [Int32.lt_iff_toInt_lt] at h
  omega
theorem own_big {t : Int32} (h : (18 : Int32) < t) : 18 < t.toInt := by
  have c0 : (18 : Int32).toInt = 18 := by decide
  rw [Int32.lt_iff_toInt_lt] at h
  omega
set_option maxRecDepth 65536 in
set_option maxHeartbeats 40000000 in
theorem rm_ex (l : Launch) (Z : State) (a0 : Array Value) (hw : ∀ d ∈ tables_1, d.before a0 Z = true) (t : Int32) (fv : Value) (cs : Int32) (h0 : Heap) (hfr : fv.isRef = true) (hfc : fv.category = 1) (SF : Sta Z h0 "jdk/internal/util/Preconditions" "SIOOBE_FORMATTER" "Ljava/util/function/BiFunction;" fv) (hcs : ¬ cs = (0 : Int32)) (SC : Sta Z h0 "java/lang/String" "COMPACT_STRINGS" "Z" (.int cs)) :
    MetFree l (⟨"com/example/folioscope/folioscope/image/TiffDirectoryValueBytesPinLaw", "expected", "(I)I"⟩ : MethodName) (head1 [Jvm.Cond.code (⟨"com/example/folioscope/folioscope/image/TiffDirectoryValueBytesPinLaw", "expected", "(I)I"⟩ : MethodName) method_2_code 2 (some .int)] ({ frames := 4, cells := 2, slots := 80, locals := 55 } : Room)) (fun a U => a = #[(.int t)] ∧ Z.Warmed39 U.vm ∧ U.heap = h0 ∧ CHv Z [("com/example/folioscope/folioscope/image/TiffDirectoryValueBytesPinLaw", 7)] U.vm h0) (fun _ _ _ _ _ => True) (fun _ U o U' => ∃ v L, o = .returned v ∧ (own_exq t) v U'.heap L ∧ CHr Z [("com/example/folioscope/folioscope/image/TiffDirectoryValueBytesPinLaw", 7)] U.vm U.heap U'.vm U'.heap ∧ ReturnedEndW U o U' L ({ frames := 4, cells := 2, slots := 80, locals := 55 } : Room).cells ({ frames := 4, cells := 2, slots := 80, locals := 55 } : Room).slots) := by
  refine MetFree.of_bodySF (plainFor_of_name pn_4) hisR ?_
  intro p e s m args below meth c s₁ Bd hml0 hP hK
  obtain ⟨rfl, hZ, hh, hCH⟩ := hP
  have hx := Bd.exec
  have hby := Bd.bytes
  have hml : c.maxLocals = 2 := hml0
  have hown : s.vm.findClass "com/example/folioscope/folioscope/image/TiffDirectoryValueBytesPinLaw" = some m.cls := findClass_of_methodNamed Bd.named
  have hlk : meth.locks = false := BodyLoose.notSynchronized Bd
  have hEL := own_EL hw
  have X0 : Stand p l e ({ frames := 4, cells := 2, slots := 80, locals := 55 } : Room) s m #[(.int t)] below meth c s₁ [] 0 0 := Stand.of_body Bd
  have e0 : s₁.heap = h0 := by rw [← hh, Bd.state]; rfl
  show GoesW p e below s (fun t => CHr Z [("com/example/folioscope/folioscope/image/TiffDirectoryValueBytesPinLaw", 7)] s.vm s.heap t.vm t.heap) (own_exq t) ({ frames := 4, cells := 2, slots := 80, locals := 55 } : Room).cells ({ frames := 4, cells := 2, slots := 80, locals := 55 } : Room).slots s₁ (entryFrame m #[(.int t)] 2)
  rw [ef_ex m t]
  refine own_goW (T' := s₁) (g' := (mkF m 1 #[.val (.int t), .unset] [(.int t)])) (fun t_ K => XS.iloadN X0.here hx rfl (hb hby d_ex_0) rfl K) ?_
  by_cases c1 : t < (0 : Int32)
  · refine own_goW (T' := s₁) (g' := (mkF m 10 #[.val (.int t), .unset] [])) (fun t_ K => XS.ifYes X0.here hx rfl (pc0 := 1) (pc' := 10) rfl (hb hby d_ex_1) rfl ((if0 _ _).trans (tlt c1).1) (by decide) (by decide) K) ?_
    refine own_goW (T' := s₁) (g' := (mkF m 11 #[.val (.int t), .unset] [(.int (0 : Int32))])) (fun t_ K => XS.iconst X0.here hx rfl (hb hby d_ex_10) K) ?_
    exact own_retIW (s := s) (vm₁ := s.vm) X0 hx (State.WarmedH.since (State.WarmedH.refl s) 0) (Nat.zero_le _) Bd.returns (Or.inl rfl) hlk (hb hby d_ex_11) ⟨by rw [own_vb, if_pos]; exact Or.inl (own_neg c1), rfl⟩ (fun fs => by show CHr Z [("com/example/folioscope/folioscope/image/TiffDirectoryValueBytesPinLaw", 7)] s.vm s.heap s₁.vm s₁.heap; rw [hh, e0]; exact CHv.at (s := s) (vm0 := s.vm) X0 hZ hEL hCH) (by decide) (by decide)
  · refine own_goW (T' := s₁) (g' := (mkF m 4 #[.val (.int t), .unset] [])) (fun t_ K => XS.ifNo X0.here hx rfl (hb hby d_ex_1) rfl ((if0 _ _).trans (flt c1).1) K) ?_
    refine own_goW (T' := s₁) (g' := (mkF m 5 #[.val (.int t), .unset] [(.int t)])) (fun t_ K => XS.iloadN X0.here hx rfl (hb hby d_ex_4) rfl K) ?_
    refine own_goW (T' := s₁) (g' := (mkF m 7 #[.val (.int t), .unset] [(.int (18 : Int32)), (.int t)])) (fun t_ K => XS.bipush X0.here hx rfl (hb hby d_ex_5) K) ?_
    by_cases c7 : (18 : Int32) < t
    · refine own_goW (T' := s₁) (g' := (mkF m 10 #[.val (.int t), .unset] [])) (fun t_ K => XS.icmpNo X0.here hx rfl (hb hby d_ex_7) rfl (tlt c7).2.2.2 K) ?_
      refine own_goW (T' := s₁) (g' := (mkF m 11 #[.val (.int t), .unset] [(.int (0 : Int32))])) (fun t_ K => XS.iconst X0.here hx rfl (hb hby d_ex_10) K) ?_
      exact own_retIW (s := s) (vm₁ := s.vm) X0 hx (State.WarmedH.since (State.WarmedH.refl s) 0) (Nat.zero_le _) Bd.returns (Or.inl rfl) hlk (hb hby d_ex_11) ⟨by rw [own_vb, if_pos]; exact Or.inr (own_big c7), rfl⟩ (fun fs => by show CHr Z [("com/example/folioscope/folioscope/image/TiffDirectoryValueBytesPinLaw", 7)] s.vm s.heap s₁.vm s₁.heap; rw [hh, e0]; exact CHv.at (s := s) (vm0 := s.vm) X0 hZ hEL hCH) (by decide) (by decide)
    · refine own_goW (T' := s₁) (g' := (mkF m 12 #[.val (.int t), .unset] [])) (fun t_ K => XS.icmpYes X0.here hx rfl (pc0 := 7) (pc' := 12) rfl (hb hby d_ex_7) rfl (flt c7).2.2.2 (by decide) (by decide) K) ?_
      obtain ⟨sa, T1, hp1, k1, ba, kc, X1, e1, E1, S1, hk1, hZ, hown, Ea, Fc, Fv, AV, -, -, hC1, -, -, st1⟩ := ldcCH (s := s) (vm0 := s.vm) X0 hx hZ hown (hw _ (List.mem_of_getElem? (i := 8) rfl)) (own_sa hw) e0 (k0 := 0) (State.WarmedH.since (State.WarmedH.refl s) 0) (Nat.zero_le _) hEL (List.mem_cons_self ..) hCH (z := (19 : Int32)) own_text (by decide) (by decide) (g := (mkF m 12 #[.val (.int t), .unset] [])) rfl (hb hby d_ex_12) (n := 76) (by decide +kernel) (by decide) (by decide) (by decide)
      have SC' := SC.ext E1
      have SF' := SF.ext E1
      refine own_goW (T' := T1) (g' := (mkF m 14 #[.val (.int t), .unset] [(.ref sa)])) (fun t_ K => st1 _ K) ?_
      refine own_goW (T' := T1) (g' := (mkF m 15 #[.val (.int t), .val (.ref sa)] [])) (fun t_ K => XS.astoreN X1.here hx rfl (hb hby d_ex_14) rfl rfl (l' := #[.val (.int t), .val (.ref sa)]) rfl K) ?_
      refine own_goW (T' := T1) (g' := (mkF m 16 #[.val (.int t), .val (.ref sa)] [(.ref sa)])) (fun t_ K => XS.aloadN X1.here hx rfl (hb hby d_ex_15) rfl rfl K) ?_
      refine own_goW (T' := T1) (g' := (mkF m 17 #[.val (.int t), .val (.ref sa)] [(.int t), (.ref sa)])) (fun t_ K => XS.iloadN X1.here hx rfl (hb hby d_ex_16) rfl K) ?_
      obtain ⟨T2, X2, e2, st2⟩ := own_callV (W := 0) (rm := { frames := 3, cells := 0, slots := 0, locals := 40 }) X1 hx hZ hown (hw _ (List.mem_of_getElem? (i := 16) rfl)) (hw _ (List.mem_of_getElem? (i := 17) rfl)) (hw _ (List.mem_of_getElem? (i := 19) rfl)) (notFace_of_selects (args := #[]) (mvT hZ (hw _ (List.mem_of_getElem? (i := 19) rfl)))) (hw _ (List.mem_of_getElem? (i := 18) rfl)) (hw _ (List.mem_of_getElem? (i := 9) rfl)) (hw _ (List.mem_of_getElem? (i := 20) rfl)) (by decide) e1 Ea (argsL := [(.int t)]) (rest := []) (r := some (.int (own_ch t))) (rm_ca l Z a0 hw sa ba t kc fv cs hp1 c1 c7 hfr hfc SF' hcs SC' Ea Fc Fv AV) rfl rfl (by decide) (by decide) (by decide) (by decide) (g := (mkF m 17 #[.val (.int t), .val (.ref sa)] [(.int t), (.ref sa)])) rfl (by rw [hml]; rfl) (lenOf pd_4 rfl) rfl (by show 2 * 0 + _ ≤ _; exact Nat.le_of_eq rfl) (hb hby d_ex_17)
      refine own_goW (T' := T2) (g' := (mkF m 20 #[.val (.int t), .val (.ref sa)] [(.int (own_ch t))])) (fun t_ K => st2 _ K) ?_
      refine own_goW (T' := T2) (g' := (mkF m 22 #[.val (.int t), .val (.ref sa)] [(.int (48 : Int32)), (.int (own_ch t))])) (fun t_ K => XS.bipush X2.here hx rfl (hb hby d_ex_20) K) ?_
      refine own_goW (T' := T2) (g' := (mkF m 23 #[.val (.int t), .val (.ref sa)] [(.int ((own_ch t) - (48 : Int32)))])) (fun t_ K => XS.isub X2.here hx rfl (hb hby d_ex_22) rfl K) ?_
      exact own_retIW (s := s) (vm₁ := T1.vm) X2 hx S1 (by rw [e2]; exact hk1) Bd.returns (Or.inl rfl) hlk (hb hby d_ex_23) ⟨by rw [(own_chk c1 c7).2.2], rfl⟩ (fun fs => by show CHr Z [("com/example/folioscope/folioscope/image/TiffDirectoryValueBytesPinLaw", 7)] s.vm s.heap T2.vm T2.heap; rw [hh, e2]; exact hC1.trans (CHv.at (s := s) (vm0 := T1.vm) X2 hZ hEL hC1.1)) (by decide) (by decide)
set_option maxRecDepth 65536 in
set_option maxHeartbeats 40000000 in
theorem rm_law (l : Launch) (Z : State) (a0 : Array Value) (hw : ∀ d ∈ tables_1, d.before a0 Z = true) (ws : List Jvm.Cond) (xa xb : Int32) (fv : Value) (cs : Int32) (h0 : Heap) (hfr : fv.isRef = true) (hfc : fv.category = 1) (SF : Sta Z h0 "jdk/internal/util/Preconditions" "SIOOBE_FORMATTER" "Ljava/util/function/BiFunction;" fv) (hcs : ¬ cs = (0 : Int32)) (SC : Sta Z h0 "java/lang/String" "COMPACT_STRINGS" "Z" (.int cs)) :
    MetFree l x (head1 (Jvm.Cond.code x code maxLocals ret :: ws) room_1) (fun a U => a = #[(.int xa), (.int xb)] ∧ Z.Warmed39 U.vm ∧ U.heap = h0 ∧ CHv Z [("com/example/folioscope/folioscope/image/TiffDirectoryValueBytesPinLaw", 7)] U.vm h0) (fun _ _ _ _ _ => True) (fun _ U o U' => ∃ v L, o = .returned v ∧ (fun v (_ : Heap) (L : List Loc) => v = some (.int 1) ∧ L = []) v U'.heap L ∧ True ∧ ReturnedEndW U o U' L 2 80) := by
  refine MetFree.of_bodySF (plainFor_of_name pn_4) hisR ?_
  intro p e s m args below meth c s₁ Bd hml0 hP hK
  obtain ⟨rfl, hZ, hh, hCH⟩ := hP
  have hx := Bd.exec
  have hby := Bd.bytes
  have hml : c.maxLocals = 5 := hml0
  have hown : s.vm.findClass "com/example/folioscope/folioscope/image/TiffDirectoryValueBytesPinLaw" = some m.cls := findClass_of_methodNamed Bd.named
  have hlk : meth.locks = false := BodyLoose.notSynchronized Bd
  have hEL := own_EL hw
  have X0 : Stand p l e room_1 s m #[(.int xa), (.int xb)] below meth c s₁ [] 0 0 := Stand.of_body Bd
  have e0 : s₁.heap = h0 := by rw [← hh, Bd.state]; rfl
  show GoesW p e below s (fun _ => True) (fun v (_ : Heap) (L : List Loc) => v = some (.int 1) ∧ L = []) 2 80 s₁ (entryFrame m #[(.int xa), (.int xb)] maxLocals)
  rw [ef_law m xa xb]
  refine own_goW (T' := s₁) (g' := (mkF m 1 #[.val (.int xa), .val (.int xb), .unset, .unset, .unset] [(.int xb)])) (fun t_ K => XS.iloadN X0.here hx rfl (hb hby at_0) rfl K) ?_
  refine own_goW (T' := s₁) (g' := (mkF m 2 #[.val (.int xa), .val (.int xb), .unset, .unset, .unset] [(.int (1 : Int32)), (.int xb)])) (fun t_ K => XS.iconst X0.here hx rfl (hb hby at_1) K) ?_
  refine own_goW (T' := s₁) (g' := (mkF m 3 #[.val (.int xa), .val (.int xb), .unset, .unset, .unset] [(.int (xb &&& (1 : Int32)))])) (fun t_ K => XS.iand X0.here hx rfl (hb hby at_2) rfl K) ?_
  by_cases c3 : (xb &&& (1 : Int32)) = (0 : Int32)
  · refine own_goW (T' := s₁) (g' := (mkF m 10 #[.val (.int xa), .val (.int xb), .unset, .unset, .unset] [])) (fun t_ K => XS.ifYes X0.here hx rfl (pc0 := 3) (pc' := 10) rfl (hb hby at_3) rfl ((if0 _ _).trans (teq c3).1) (by decide) (by decide) K) ?_
    refine own_goW (T' := s₁) (g' := (mkF m 11 #[.val (.int xa), .val (.int xb), .unset, .unset, .unset] [(.int (0 : Int32))])) (fun t_ K => XS.iconst X0.here hx rfl (hb hby at_10) K) ?_
    refine own_goW (T' := s₁) (g' := (mkF m 12 #[.val (.int xa), .val (.int xb), .val (.int (0 : Int32)), .unset, .unset] [])) (fun t_ K => XS.istoreN X0.here hx rfl (hb hby at_11) rfl (l' := #[.val (.int xa), .val (.int xb), .val (.int (0 : Int32)), .unset, .unset]) rfl K) ?_
    refine own_goW (T' := s₁) (g' := (mkF m 13 #[.val (.int xa), .val (.int xb), .val (.int (0 : Int32)), .unset, .unset] [(.int (0 : Int32))])) (fun t_ K => XS.iloadN X0.here hx rfl (hb hby at_12) rfl K) ?_
    refine own_goW (T' := s₁) (g' := (mkF m 20 #[.val (.int xa), .val (.int xb), .val (.int (0 : Int32)), .unset, .unset] [])) (fun t_ K => XS.ifYes X0.here hx rfl (pc0 := 13) (pc' := 20) rfl (hb hby at_13) rfl ((if0 _ _).trans (teq (by decide : (0 : Int32) = (0 : Int32))).1) (by decide) (by decide) K) ?_
    refine own_goW (T' := s₁) (g' := (mkF m 21 #[.val (.int xa), .val (.int xb), .val (.int (0 : Int32)), .unset, .unset] [(.int xa)])) (fun t_ K => XS.iloadN X0.here hx rfl (hb hby at_20) rfl K) ?_
    refine own_goW (T' := s₁) (g' := (mkF m 23 #[.val (.int xa), .val (.int xb), .val (.int (0 : Int32)), .unset, .unset] [(.int (24 : Int32)), (.int xa)])) (fun t_ K => XS.bipush X0.here hx rfl (hb hby at_21) K) ?_
    refine own_goW (T' := s₁) (g' := (mkF m 24 #[.val (.int xa), .val (.int xb), .val (.int (0 : Int32)), .unset, .unset] [(.int (xa % (24 : Int32)))])) (fun t_ K => iremM X0 hx rfl (hb hby at_23) rfl (by decide) K) ?_
    refine own_goW (T' := s₁) (g' := (mkF m 25 #[.val (.int xa), .val (.int xb), .val (.int (0 : Int32)), .val (.int (xa % (24 : Int32))), .unset] [])) (fun t_ K => XS.istoreN X0.here hx rfl (hb hby at_24) rfl (l' := #[.val (.int xa), .val (.int xb), .val (.int (0 : Int32)), .val (.int (xa % (24 : Int32))), .unset]) rfl K) ?_
    refine own_goW (T' := s₁) (g' := (mkF m 26 #[.val (.int xa), .val (.int xb), .val (.int (0 : Int32)), .val (.int (xa % (24 : Int32))), .unset] [(.int (xa % (24 : Int32)))])) (fun t_ K => XS.iloadN X0.here hx rfl (hb hby at_25) rfl K) ?_
    obtain ⟨T1, X1, e1, st1⟩ := own_callS (W := 0) (rm := { frames := 0, cells := 0, slots := 0, locals := 0 }) X0 hx hZ hown (hw _ (List.mem_of_getElem? (i := 0) rfl)) (hw _ (List.mem_of_getElem? (i := 1) rfl)) (hw _ (List.mem_of_getElem? (i := 2) rfl)) (hw _ (List.mem_of_getElem? (i := 3) rfl)) (by decide) e0 (argsL := [(.int (xa % (24 : Int32)))]) (rest := []) (r := some (.int (own_vb (xa % (24 : Int32))))) (rm_vb l Z a0 hw (xa % (24 : Int32)) h0) rfl rfl (by decide) (by decide) (by decide) (by decide) (g := (mkF m 26 #[.val (.int xa), .val (.int xb), .val (.int (0 : Int32)), .val (.int (xa % (24 : Int32))), .unset] [(.int (xa % (24 : Int32)))])) rfl (by rw [hml]; rfl) (lenOf pd_5 rfl) rfl (by show 2 * 0 + _ ≤ _; exact Nat.le_of_eq rfl) (hb hby at_26)
    refine own_goW (T' := T1) (g' := (mkF m 29 #[.val (.int xa), .val (.int xb), .val (.int (0 : Int32)), .val (.int (xa % (24 : Int32))), .unset] [(.int (own_vb (xa % (24 : Int32))))])) (fun t_ K => st1 _ K) ?_
    refine own_goW (T' := T1) (g' := (mkF m 31 #[.val (.int xa), .val (.int xb), .val (.int (0 : Int32)), .val (.int (xa % (24 : Int32))), .val (.int (own_vb (xa % (24 : Int32))))] [])) (fun t_ K => XS.istore X1.here hx rfl (hb hby at_29) rfl (l' := #[.val (.int xa), .val (.int xb), .val (.int (0 : Int32)), .val (.int (xa % (24 : Int32))), .val (.int (own_vb (xa % (24 : Int32))))]) rfl K) ?_
    refine own_goW (T' := T1) (g' := (mkF m 33 #[.val (.int xa), .val (.int xb), .val (.int (0 : Int32)), .val (.int (xa % (24 : Int32))), .val (.int (own_vb (xa % (24 : Int32))))] [(.int (own_vb (xa % (24 : Int32))))])) (fun t_ K => XS.iload X1.here hx rfl (hb hby at_31) rfl K) ?_
    refine own_goW (T' := T1) (g' := (mkF m 34 #[.val (.int xa), .val (.int xb), .val (.int (0 : Int32)), .val (.int (xa % (24 : Int32))), .val (.int (own_vb (xa % (24 : Int32))))] [(.int (xa % (24 : Int32))), (.int (own_vb (xa % (24 : Int32))))])) (fun t_ K => XS.iloadN X1.here hx rfl (hb hby at_33) rfl K) ?_
    obtain ⟨_, _, ⟨T2, L2, k2, n2⟩, -, X2, hS2, hg2, ⟨Lc2, ⟨rfl, rfl⟩, l2, y2, z2, hC2⟩, st2⟩ := callSS X1 hx (y := (⟨"com/example/folioscope/folioscope/image/TiffDirectoryValueBytesPinLaw", "expected", "(I)I"⟩ : MethodName)) hown (mvT hZ (hw _ (List.mem_of_getElem? (i := 4) rfl))) (mvT hZ (hw _ (List.mem_of_getElem? (i := 5) rfl))) (mvT hZ (hw _ (List.mem_of_getElem? (i := 6) rfl))) (mvT hZ (hw _ (List.mem_of_getElem? (i := 7) rfl))) (by decide) (backOfSH (s := s) (vm0 := s.vm) (W := 1) (rm_ex l Z a0 hw (xa % (24 : Int32)) fv cs h0 hfr hfc SF hcs SC) hZ (hw _ (List.mem_of_getElem? (i := 7) rfl)) (hw _ (List.mem_of_getElem? (i := 6) rfl)) (by decide) (by decide) hEL hCH) (g := (mkF m 34 #[.val (.int xa), .val (.int xb), .val (.int (0 : Int32)), .val (.int (xa % (24 : Int32))), .val (.int (own_vb (xa % (24 : Int32))))] [(.int (xa % (24 : Int32))), (.int (own_vb (xa % (24 : Int32))))])) rfl (by rw [hml]; rfl) (argsL := [(.int (xa % (24 : Int32)))]) (rest := [(.int (own_vb (xa % (24 : Int32))))]) (lenOf pd_5 rfl) rfl (by show 2 * 0 + _ ≤ _; exact Nat.le_of_eq rfl) (hb hby at_34) (fun _ _ => ⟨rfl, e1, (by decide : 0 + 2 ≤ _), (by decide : 0 + 80 ≤ _)⟩)
    dsimp only [Pt.U, Pt.locs, Pt.cells, Pt.slots] at X2 l2 y2 z2 st2 hS2
    subst l2 y2 z2
    refine own_trW (T' := T2) (g' := (mkF m 37 #[.val (.int xa), .val (.int xb), .val (.int (0 : Int32)), .val (.int (xa % (24 : Int32))), .val (.int (own_vb (xa % (24 : Int32))))] [(.int (own_vb (xa % (24 : Int32)))), (.int (own_vb (xa % (24 : Int32))))])) st2 ?_
    refine own_goW (T' := T2) (g' := (mkF m 40 #[.val (.int xa), .val (.int xb), .val (.int (0 : Int32)), .val (.int (xa % (24 : Int32))), .val (.int (own_vb (xa % (24 : Int32))))] [])) (fun t_ K => XS.icmpNo X2.here hx rfl (hb hby at_37) rfl (teq rfl).2 K) ?_
    refine own_goW (T' := T2) (g' := (mkF m 41 #[.val (.int xa), .val (.int xb), .val (.int (0 : Int32)), .val (.int (xa % (24 : Int32))), .val (.int (own_vb (xa % (24 : Int32))))] [(.int (1 : Int32))])) (fun t_ K => XS.iconst X2.here hx rfl (hb hby at_40) K) ?_
    refine own_goW (T' := T2) (g' := (mkF m 45 #[.val (.int xa), .val (.int xb), .val (.int (0 : Int32)), .val (.int (xa % (24 : Int32))), .val (.int (own_vb (xa % (24 : Int32))))] [(.int (1 : Int32))])) (fun t_ K => XS.goto X2.here hx rfl (pc0 := 41) (pc' := 45) rfl (hb hby at_41) (by decide) (by decide) K) ?_
    exact own_retIW (s := s) (vm₁ := T2.vm) X2 hx hS2 (Nat.le_refl _) Bd.returns (Or.inr ⟨rfl, Or.inr rfl⟩) hlk (hb hby at_45) ⟨rfl, rfl⟩ (fun _ => trivial) (by decide) (by decide)
  · refine own_goW (T' := s₁) (g' := (mkF m 6 #[.val (.int xa), .val (.int xb), .unset, .unset, .unset] [])) (fun t_ K => XS.ifNo X0.here hx rfl (hb hby at_3) rfl ((if0 _ _).trans (feq c3).1) K) ?_
    refine own_goW (T' := s₁) (g' := (mkF m 7 #[.val (.int xa), .val (.int xb), .unset, .unset, .unset] [(.int (1 : Int32))])) (fun t_ K => XS.iconst X0.here hx rfl (hb hby at_6) K) ?_
    refine own_goW (T' := s₁) (g' := (mkF m 11 #[.val (.int xa), .val (.int xb), .unset, .unset, .unset] [(.int (1 : Int32))])) (fun t_ K => XS.goto X0.here hx rfl (pc0 := 7) (pc' := 11) rfl (hb hby at_7) (by decide) (by decide) K) ?_
    refine own_goW (T' := s₁) (g' := (mkF m 12 #[.val (.int xa), .val (.int xb), .val (.int (1 : Int32)), .unset, .unset] [])) (fun t_ K => XS.istoreN X0.here hx rfl (hb hby at_11) rfl (l' := #[.val (.int xa), .val (.int xb), .val (.int (1 : Int32)), .unset, .unset]) rfl K) ?_
    refine own_goW (T' := s₁) (g' := (mkF m 13 #[.val (.int xa), .val (.int xb), .val (.int (1 : Int32)), .unset, .unset] [(.int (1 : Int32))])) (fun t_ K => XS.iloadN X0.here hx rfl (hb hby at_12) rfl K) ?_
    refine own_goW (T' := s₁) (g' := (mkF m 16 #[.val (.int xa), .val (.int xb), .val (.int (1 : Int32)), .unset, .unset] [])) (fun t_ K => XS.ifNo X0.here hx rfl (hb hby at_13) rfl ((if0 _ _).trans (feq (by decide : ¬ ((1 : Int32) = (0 : Int32)))).1) K) ?_
    refine own_goW (T' := s₁) (g' := (mkF m 17 #[.val (.int xa), .val (.int xb), .val (.int (1 : Int32)), .unset, .unset] [(.int xa)])) (fun t_ K => XS.iloadN X0.here hx rfl (hb hby at_16) rfl K) ?_
    refine own_goW (T' := s₁) (g' := (mkF m 24 #[.val (.int xa), .val (.int xb), .val (.int (1 : Int32)), .unset, .unset] [(.int xa)])) (fun t_ K => XS.goto X0.here hx rfl (pc0 := 17) (pc' := 24) rfl (hb hby at_17) (by decide) (by decide) K) ?_
    refine own_goW (T' := s₁) (g' := (mkF m 25 #[.val (.int xa), .val (.int xb), .val (.int (1 : Int32)), .val (.int xa), .unset] [])) (fun t_ K => XS.istoreN X0.here hx rfl (hb hby at_24) rfl (l' := #[.val (.int xa), .val (.int xb), .val (.int (1 : Int32)), .val (.int xa), .unset]) rfl K) ?_
    refine own_goW (T' := s₁) (g' := (mkF m 26 #[.val (.int xa), .val (.int xb), .val (.int (1 : Int32)), .val (.int xa), .unset] [(.int xa)])) (fun t_ K => XS.iloadN X0.here hx rfl (hb hby at_25) rfl K) ?_
    obtain ⟨T3, X3, e3, st3⟩ := own_callS (W := 0) (rm := { frames := 0, cells := 0, slots := 0, locals := 0 }) X0 hx hZ hown (hw _ (List.mem_of_getElem? (i := 0) rfl)) (hw _ (List.mem_of_getElem? (i := 1) rfl)) (hw _ (List.mem_of_getElem? (i := 2) rfl)) (hw _ (List.mem_of_getElem? (i := 3) rfl)) (by decide) e0 (argsL := [(.int xa)]) (rest := []) (r := some (.int (own_vb xa))) (rm_vb l Z a0 hw xa h0) rfl rfl (by decide) (by decide) (by decide) (by decide) (g := (mkF m 26 #[.val (.int xa), .val (.int xb), .val (.int (1 : Int32)), .val (.int xa), .unset] [(.int xa)])) rfl (by rw [hml]; rfl) (lenOf pd_5 rfl) rfl (by show 2 * 0 + _ ≤ _; exact Nat.le_of_eq rfl) (hb hby at_26)
    refine own_goW (T' := T3) (g' := (mkF m 29 #[.val (.int xa), .val (.int xb), .val (.int (1 : Int32)), .val (.int xa), .unset] [(.int (own_vb xa))])) (fun t_ K => st3 _ K) ?_
    refine own_goW (T' := T3) (g' := (mkF m 31 #[.val (.int xa), .val (.int xb), .val (.int (1 : Int32)), .val (.int xa), .val (.int (own_vb xa))] [])) (fun t_ K => XS.istore X3.here hx rfl (hb hby at_29) rfl (l' := #[.val (.int xa), .val (.int xb), .val (.int (1 : Int32)), .val (.int xa), .val (.int (own_vb xa))]) rfl K) ?_
    refine own_goW (T' := T3) (g' := (mkF m 33 #[.val (.int xa), .val (.int xb), .val (.int (1 : Int32)), .val (.int xa), .val (.int (own_vb xa))] [(.int (own_vb xa))])) (fun t_ K => XS.iload X3.here hx rfl (hb hby at_31) rfl K) ?_
    refine own_goW (T' := T3) (g' := (mkF m 34 #[.val (.int xa), .val (.int xb), .val (.int (1 : Int32)), .val (.int xa), .val (.int (own_vb xa))] [(.int xa), (.int (own_vb xa))])) (fun t_ K => XS.iloadN X3.here hx rfl (hb hby at_33) rfl K) ?_
    obtain ⟨_, _, ⟨T4, L4, k4, n4⟩, -, X4, hS4, hg4, ⟨Lc4, ⟨rfl, rfl⟩, l4, y4, z4, hC4⟩, st4⟩ := callSS X3 hx (y := (⟨"com/example/folioscope/folioscope/image/TiffDirectoryValueBytesPinLaw", "expected", "(I)I"⟩ : MethodName)) hown (mvT hZ (hw _ (List.mem_of_getElem? (i := 4) rfl))) (mvT hZ (hw _ (List.mem_of_getElem? (i := 5) rfl))) (mvT hZ (hw _ (List.mem_of_getElem? (i := 6) rfl))) (mvT hZ (hw _ (List.mem_of_getElem? (i := 7) rfl))) (by decide) (backOfSH (s := s) (vm0 := s.vm) (W := 1) (rm_ex l Z a0 hw xa fv cs h0 hfr hfc SF hcs SC) hZ (hw _ (List.mem_of_getElem? (i := 7) rfl)) (hw _ (List.mem_of_getElem? (i := 6) rfl)) (by decide) (by decide) hEL hCH) (g := (mkF m 34 #[.val (.int xa), .val (.int xb), .val (.int (1 : Int32)), .val (.int xa), .val (.int (own_vb xa))] [(.int xa), (.int (own_vb xa))])) rfl (by rw [hml]; rfl) (argsL := [(.int xa)]) (rest := [(.int (own_vb xa))]) (lenOf pd_5 rfl) rfl (by show 2 * 0 + _ ≤ _; exact Nat.le_of_eq rfl) (hb hby at_34) (fun _ _ => ⟨rfl, e3, (by decide : 0 + 2 ≤ _), (by decide : 0 + 80 ≤ _)⟩)
    dsimp only [Pt.U, Pt.locs, Pt.cells, Pt.slots] at X4 l4 y4 z4 st4 hS4
    subst l4 y4 z4
    refine own_trW (T' := T4) (g' := (mkF m 37 #[.val (.int xa), .val (.int xb), .val (.int (1 : Int32)), .val (.int xa), .val (.int (own_vb xa))] [(.int (own_vb xa)), (.int (own_vb xa))])) st4 ?_
    refine own_goW (T' := T4) (g' := (mkF m 40 #[.val (.int xa), .val (.int xb), .val (.int (1 : Int32)), .val (.int xa), .val (.int (own_vb xa))] [])) (fun t_ K => XS.icmpNo X4.here hx rfl (hb hby at_37) rfl (teq rfl).2 K) ?_
    refine own_goW (T' := T4) (g' := (mkF m 41 #[.val (.int xa), .val (.int xb), .val (.int (1 : Int32)), .val (.int xa), .val (.int (own_vb xa))] [(.int (1 : Int32))])) (fun t_ K => XS.iconst X4.here hx rfl (hb hby at_40) K) ?_
    refine own_goW (T' := T4) (g' := (mkF m 45 #[.val (.int xa), .val (.int xb), .val (.int (1 : Int32)), .val (.int xa), .val (.int (own_vb xa))] [(.int (1 : Int32))])) (fun t_ K => XS.goto X4.here hx rfl (pc0 := 41) (pc' := 45) rfl (hb hby at_41) (by decide) (by decide) K) ?_
    exact own_retIW (s := s) (vm₁ := T4.vm) X4 hx hS4 (Nat.le_refl _) Bd.returns (Or.inr ⟨rfl, Or.inr rfl⟩) hlk (hb hby at_45) ⟨rfl, rfl⟩ (fun _ => trivial) (by decide) (by decide)
set_option maxRecDepth 65536 in
set_option maxHeartbeats 40000000 in
theorem comes_1 {Post : Tables → Env → Array Value → State → Outcome → State → Prop} (hpost : ∀ tb e args s v u, (limb_1_1.after args s (.returned v) u = true ∧ limb_1_2.after args s (.returned v) u = true ∧ True) → ReturnedEndW s (.returned v) u (Jvm.fieldLocs frame_1_writes args s ++ Jvm.arrayLocs frame_1_arrays args s ++ Jvm.staticLocs frame_1_statics s) 8 1088 → Post tb e args s (.returned v) u) :
    ArmFor flags0 classFile x code maxLocals ret World_1 tables_1 room_1 Calls_1 rest_1 Pre_1 Post := by
  intro l hfl _ _ p e ha hc hk s m args below hf hA hF happ hP
  obtain ⟨hcalls, hrest, hpre⟩ := hP
  obtain ⟨-, -, -, hnamed, -, -, -, hat⟩ := (Spec.applies_iff hf).mp happ
  obtain ⟨hg, hn⟩ := and_e (Cond.before_iff.mp (show (Jvm.Cond.and given_1 narrow_1).before args s = true from hpre))
  obtain ⟨hcount, hk0⟩ := and_e hg
  obtain ⟨w0, w1, rfl⟩ : ∃ w0 w1 : Value, args = #[w0, w1] := by
    have hs : args.size = 2 := by simpa [Cond.value, given_1] using hcount
    obtain ⟨L⟩ := args
    match L, hs with
    | [w0, w1], _ => exact ⟨w0, w1, rfl⟩
  have hw := fun d (hd : d ∈ tables_1) => atoms_spec (ws := Jvm.Cond.code x code maxLocals ret :: tables_1) hat d (List.mem_cons_of_mem _ hd)
  have hfit : Fit s := fun {y c} hc i hi => by
    obtain ⟨ha, rfl⟩ := Array.getElem?_eq_some_iff.mp hc
    have q := List.all_eq_true.mp ((Array.all_eq_true_iff_forall_mem.mp hF) _ (Array.getElem_mem ha)) i (List.mem_range.mpr hi)
    simpa [Array.getElem?_eq_getElem hi] using q
  obtain ⟨ka0, hk1⟩ := and_e hk0
  obtain ⟨q0, f0⟩ := is_v ka0
  obtain rfl : w0 = (.int q0) := Option.some.inj f0
  obtain ⟨q1, f1⟩ := is_v hk1
  obtain rfl : w1 = (.int q1) := Option.some.inj f1
  have hr := Cond.before_iff.mp (show rest_1_c.before _ s = true from hrest)
  obtain ⟨r0, hr0⟩ := and_e hr
  obtain ⟨r1, hr1⟩ := and_e hr0
  obtain ⟨r2, hr2⟩ := and_e hr1
  obtain ⟨r3, hr3⟩ := and_e hr2
  obtain ⟨r4, hr4⟩ := and_e hr3
  obtain ⟨r5, hr5⟩ := and_e hr4
  obtain ⟨r6, hr6⟩ := and_e hr5
  obtain ⟨r7, hr7⟩ := and_e hr6
  obtain ⟨r8, hr8⟩ := and_e hr7
  obtain ⟨cs, v_cs⟩ := is_v r1
  have SC : Sta s s.heap "java/lang/String" "COMPACT_STRINGS" "Z" (.int cs) := Sta.start v_cs (Or.inl (Cond.before_iff.mpr r0))
  have hcs : ¬ cs = (0 : Int32) := gotF (Cond.eq_ints v_cs (Term.int_eval 0)) (not_v r2)
  obtain ⟨fv, v_fv, hfr⟩ := isR_v r8
  have hfc : fv.category = 1 := by rcases ref_cases hfr with rfl | ⟨_, rfl⟩ <;> rfl
  have SF : Sta s s.heap "jdk/internal/util/Preconditions" "SIOOBE_FORMATTER" "Ljava/util/function/BiFunction;" fv := Sta.start v_fv (Or.inl (Cond.before_iff.mpr r7))
  have hCH : CHv s [("com/example/folioscope/folioscope/image/TiffDirectoryValueBytesPinLaw", 7)] s.vm s.heap := CHv.start (own_EL hw) (fun q hq => hcalls.1 q hq) (Cond.before_iff.mpr r2) (hw _ (List.mem_of_getElem? (i := 11) rfl)) (hw _ (List.mem_of_getElem? (i := 10) rfl))
  obtain ⟨n, o, h1, h2, h3, _, L, rfl, hQ, hq⟩ := rm_law l s _ hw tables_1 q0 q1 fv cs s.heap hfr hfc SF hcs SC p e ha hc hk s m _ below hf ((Spec.applies_iff_loose hf).mp happ).1 ⟨rfl, State.Warmed39.refl s, rfl, hCH⟩ trivial
  obtain ⟨rfl, rfl⟩ := hQ
  obtain ⟨-, hq⟩ := hq
  refine ⟨n, _, h1, h2, h3, hpost _ _ _ _ _ _ ⟨Cond.after_iff.mpr rfl, Cond.after_iff.mpr (eq_i res_at (Term.int_eval (1)) rfl), trivial⟩ ⟨hq.1, hq.2.1, hq.2.2.1, (hq.2.2.2.sift fun y hy => nomatch hy).mono (by decide) (by decide)⟩⟩
theorem main_1_1 : Claimed_1_1 := comes_1 fun _ _ _ _ _ _ h hF => ⟨h.1, hF⟩
theorem main_1_2 : Claimed_1_2 := comes_1 fun _ _ _ _ _ _ h hF => ⟨h.2.1, hF⟩
end Jvm.Pilot.@@N@@
namespace Jvm.Pilot.@@N@@
open Jvm Jvm.ClassFile Sem Op Lib Jvm.Free Jvm.Stand Jvm.Pilot.@@N@@.Jvm.D
/-! MADE BY PROGRAM (witnessworld.py) out of the Statement's table words and the real class files: 17 classes; the members and pool entries that the words name. The judged class is class 1, her method 2. -/
namespace start1
open Jvm.ClassFile
def u (s : String) : CpInfo := .utf8 (stringToUtf16 s)
/-- a pool by its gaps: so many unusable entries, then the entry; so many at the end -/
def gap : Nat → List CpInfo → List CpInfo
  | 0, r => r
  | n + 1, r => .unusable :: gap n r
def poolList (es : List (Nat × CpInfo)) (last : Nat) : List CpInfo := es.foldr (fun e r => gap e.1 (e.2 :: r)) (gap last [])
def pool (es : List (Nat × CpInfo)) (last : Nat) : Array CpInfo := ⟨poolList es last⟩
def fileOf (pool : Array CpInfo) (this : Nat) (attrs : Array Attribute := #[]) (ms : Array MethodInfo := #[]) (fl : Nat := 33) (sup : Nat := 0) (ifs : Array Nat := #[]) (fds : Array FieldInfo := #[]) : ClassFile where
  minorVersion := 0
  majorVersion := 65
  constantPool := pool
  accessFlags := fl
  thisClass := this
  superClass := sup
  interfaces := ifs
  fields := fds
  methods := ms
  attributes := attrs
def plain (name : String) (sup : Option ClassId) : Class where
  name := name
  kind := .ordinary
  loader := none
  accessFlags := 33
  super := sup
  interfaces := #[]
  cf := none
  fields := #[]
  methods := #[]
  instanceTypes := #[]
  staticTypes := #[]
  resolved := #[]
  callSites := []
  init := .initialized
  statics := none
  mirror := none

def pool0 : Array CpInfo := pool [(5, u "<init>"), (0, u "()V"), (1, .class_ 10), (1, u "java/lang/Object")] 113

def k0m0 : Method := { name := "<init>", desc := "()V", sig := { parameters := [], returnType := none }, accessFlags := 1, code := none }
/-- java/lang/Object -/
def k0 : Class := { plain "java/lang/Object" none with
  accessFlags := 33
  interfaces := #[]
  cf := some (fileOf pool0 8 #[] #[{ accessFlags := 1, nameIndex := 5, descriptorIndex := 6, attributes := #[] }] 33 0 #[] #[])
  fields := #[]
  methods := #[k0m0]
  instanceTypes := #[]
  staticTypes := #[]
  resolved := Array.replicate 124 none
  statics := none }

def pool1 : Array CpInfo := pool [(2, .class_ 4), (1, u "java/lang/Object"), (0, u "<init>"), (0, u "()V"), (0, .string 8), (0, u "0112481124848400888"), (0, .methodref 10 11), (0, .class_ 12), (0, .nameAndType 13 14), (0, u "java/lang/String"), (0, u "charAt"), (0, u "(I)C"), (0, .methodref 16 17), (0, .class_ 18), (0, .nameAndType 19 20), (0, u "com/example/folioscope/folioscope/image/TiffDirectory"), (0, u "valueBytes"), (0, u "(I)I"), (0, .methodref 22 23), (0, .class_ 24), (0, .nameAndType 25 20), (0, u "com/example/folioscope/folioscope/image/TiffDirectoryValueBytesPinLaw"), (0, u "expected"), (3, u "law"), (0, u "(II)Z")] 2

def k1m0 : Method := { name := "<init>", desc := "()V", sig := { parameters := [], returnType := none }, accessFlags := 2, code := none }
def k1c1 : Code := { maxStack := 2, maxLocals := 2, code := method_2_code, exceptionTable := #[], attributes := #[] }
def k1m1 : Method := { name := "expected", desc := "(I)I", sig := { parameters := [.int], returnType := some .int }, accessFlags := 10, code := some k1c1 }
def k1c2 : Code := { maxStack := 2, maxLocals := 5, code := code, exceptionTable := #[], attributes := #[] }
def k1m2 : Method := { name := "law", desc := "(II)Z", sig := { parameters := [.int, .int], returnType := some .boolean }, accessFlags := 9, code := some k1c2 }
/-- com/example/folioscope/folioscope/image/TiffDirectoryValueBytesPinLaw -/
def k1 : Class := { plain "com/example/folioscope/folioscope/image/TiffDirectoryValueBytesPinLaw" (some 0) with
  accessFlags := 49
  interfaces := #[]
  cf := some (fileOf pool1 22 #[] #[{ accessFlags := 2, nameIndex := 5, descriptorIndex := 6, attributes := #[] }, { accessFlags := 10, nameIndex := 25, descriptorIndex := 20, attributes := #[] }, { accessFlags := 9, nameIndex := 29, descriptorIndex := 30, attributes := #[] }] 49 2 #[] #[])
  fields := #[]
  methods := #[k1m0, k1m1, k1m2]
  instanceTypes := #[]
  staticTypes := #[]
  resolved := Array.replicate 33 none
  statics := none }

def pool2 : Array CpInfo := pool [(8, .class_ 10), (1, u "java/lang/Object"), (3, .class_ 16), (1, u "com/example/folioscope/folioscope/image/TiffDirectory"), (0, u "input"), (0, u "Ljavax/imageio/stream/ImageInputStream;"), (2, u "format"), (0, u "Lcom/example/folioscope/folioscope/image/TiffFormat;"), (2, u "order"), (0, u "Ljava/nio/ByteOrder;"), (2, u "entries"), (0, u "Ljava/util/Map;"), (2, u "next"), (0, u "J"), (126, u "valueBytes"), (0, u "(I)I"), (8, .class_ 172), (0, u "com/example/folioscope/folioscope/image/TiffDirectory$Entry"), (101, u "ORDER_AND_MAGIC_BYTES"), (0, u "I"), (2, u "TIFF_LONG8"), (1, u "TIFF_SLONG8"), (1, u "TIFF_IFD8"), (1, u "MAX_ENTRIES"), (0, u "MAX_ARRAY")] 57

def k2c0 : Code := { maxStack := 1, maxLocals := 1, code := prog_86_method_16_code, exceptionTable := #[], attributes := #[] }
def k2m0 : Method := { name := "valueBytes", desc := "(I)I", sig := { parameters := [.int], returnType := some .int }, accessFlags := 8, code := some k2c0 }
/-- com/example/folioscope/folioscope/image/TiffDirectory -/
def k2 : Class := { plain "com/example/folioscope/folioscope/image/TiffDirectory" (some 0) with
  accessFlags := 48
  interfaces := #[]
  cf := some (fileOf pool2 14 #[.nestMembers #[171]] #[{ accessFlags := 8, nameIndex := 161, descriptorIndex := 162, attributes := #[] }] 48 8 #[] #[{ accessFlags := 26, nameIndex := 274, descriptorIndex := 275, attributes := #[] }, { accessFlags := 26, nameIndex := 278, descriptorIndex := 275, attributes := #[] }, { accessFlags := 26, nameIndex := 280, descriptorIndex := 275, attributes := #[] }, { accessFlags := 26, nameIndex := 282, descriptorIndex := 275, attributes := #[] }, { accessFlags := 26, nameIndex := 284, descriptorIndex := 34, attributes := #[] }, { accessFlags := 26, nameIndex := 285, descriptorIndex := 34, attributes := #[] }, { accessFlags := 18, nameIndex := 17, descriptorIndex := 18, attributes := #[] }, { accessFlags := 18, nameIndex := 21, descriptorIndex := 22, attributes := #[] }, { accessFlags := 18, nameIndex := 25, descriptorIndex := 26, attributes := #[] }, { accessFlags := 18, nameIndex := 29, descriptorIndex := 30, attributes := #[] }, { accessFlags := 18, nameIndex := 33, descriptorIndex := 34, attributes := #[] }])
  fields := #[{ name := "ORDER_AND_MAGIC_BYTES", type := .int, accessFlags := 26, slot := 0, constantValue := 0 }, { name := "TIFF_LONG8", type := .int, accessFlags := 26, slot := 1, constantValue := 0 }, { name := "TIFF_SLONG8", type := .int, accessFlags := 26, slot := 2, constantValue := 0 }, { name := "TIFF_IFD8", type := .int, accessFlags := 26, slot := 3, constantValue := 0 }, { name := "MAX_ENTRIES", type := .long, accessFlags := 26, slot := 4, constantValue := 0 }, { name := "MAX_ARRAY", type := .long, accessFlags := 26, slot := 5, constantValue := 0 }, { name := "input", type := (.object "javax/imageio/stream/ImageInputStream"), accessFlags := 18, slot := 0, constantValue := 0 }, { name := "format", type := (.object "com/example/folioscope/folioscope/image/TiffFormat"), accessFlags := 18, slot := 1, constantValue := 0 }, { name := "order", type := (.object "java/nio/ByteOrder"), accessFlags := 18, slot := 2, constantValue := 0 }, { name := "entries", type := (.object "java/util/Map"), accessFlags := 18, slot := 3, constantValue := 0 }, { name := "next", type := .long, accessFlags := 18, slot := 4, constantValue := 0 }]
  methods := #[k2m0]
  instanceTypes := #[(.object "javax/imageio/stream/ImageInputStream"), (.object "com/example/folioscope/folioscope/image/TiffFormat"), (.object "java/nio/ByteOrder"), (.object "java/util/Map"), .long]
  staticTypes := #[.int, .int, .int, .int, .long, .long]
  resolved := Array.replicate 343 none
  statics := none }

def pool3 : Array CpInfo := pool [(1, .class_ 2), (0, u "java/io/Serializable"), (0, .class_ 4), (0, u "java/lang/Object")] 2

/-- java/io/Serializable -/
def k3 : Class := { plain "java/io/Serializable" (some 0) with
  accessFlags := 1537
  interfaces := #[]
  cf := some (fileOf pool3 1 #[] #[] 1537 3 #[] #[])
  fields := #[]
  methods := #[]
  instanceTypes := #[]
  staticTypes := #[]
  resolved := Array.replicate 7 none
  statics := none }

def pool4 : Array CpInfo := pool [(1, .class_ 2), (0, u "java/lang/Comparable"), (0, .class_ 4), (0, u "java/lang/Object")] 7

/-- java/lang/Comparable -/
def k4 : Class := { plain "java/lang/Comparable" (some 0) with
  accessFlags := 1537
  interfaces := #[]
  cf := some (fileOf pool4 1 #[] #[] 1537 3 #[] #[])
  fields := #[]
  methods := #[]
  instanceTypes := #[]
  staticTypes := #[]
  resolved := Array.replicate 12 none
  statics := none }

def pool5 : Array CpInfo := pool [(2, .class_ 4), (1, u "java/lang/CharSequence"), (42, .class_ 48), (0, u "java/lang/CharSequence$1CodePointIterator"), (10, .class_ 60), (0, u "java/lang/CharSequence$1CharIterator"), (5, .class_ 67), (0, u "java/lang/Object")] 63

/-- java/lang/CharSequence -/
def k5 : Class := { plain "java/lang/CharSequence" (some 0) with
  accessFlags := 1537
  interfaces := #[]
  cf := some (fileOf pool5 2 #[.nestMembers #[47, 59]] #[] 1537 66 #[] #[])
  fields := #[]
  methods := #[]
  instanceTypes := #[]
  staticTypes := #[]
  resolved := Array.replicate 131 none
  statics := none }

def pool6 : Array CpInfo := pool [(1, .class_ 2), (0, u "java/lang/constant/Constable"), (0, .class_ 4), (0, u "java/lang/Object")] 6

/-- java/lang/constant/Constable -/
def k6 : Class := { plain "java/lang/constant/Constable" (some 0) with
  accessFlags := 1537
  interfaces := #[]
  cf := some (fileOf pool6 1 #[] #[] 1537 3 #[] #[])
  fields := #[]
  methods := #[]
  instanceTypes := #[]
  staticTypes := #[]
  resolved := Array.replicate 11 none
  statics := none }

def pool7 : Array CpInfo := pool [(1, .class_ 2), (0, u "java/lang/constant/ConstantDesc"), (0, .class_ 4), (0, u "java/lang/Object")] 32

/-- java/lang/constant/ConstantDesc -/
def k7 : Class := { plain "java/lang/constant/ConstantDesc" (some 0) with
  accessFlags := 1537
  interfaces := #[]
  cf := some (fileOf pool7 1 #[] #[] 1537 3 #[] #[])
  fields := #[]
  methods := #[]
  instanceTypes := #[]
  staticTypes := #[]
  resolved := Array.replicate 37 none
  statics := none }

def pool8 : Array CpInfo := pool [(2, .class_ 4), (1, u "java/lang/Object"), (0, u "<init>"), (0, u "()V"), (2, .fieldref 10 11), (0, .class_ 12), (0, .nameAndType 13 14), (0, u "java/lang/String"), (0, u "value"), (0, u "[B"), (0, .fieldref 10 16), (0, .nameAndType 17 18), (0, u "coder"), (0, u "B"), (2, u "hash"), (0, u "I"), (2, u "hashIsZero"), (0, u "Z"), (11, .fieldref 10 39), (0, .nameAndType 40 26), (0, u "COMPACT_STRINGS"), (66, .class_ 109), (1, u "java/lang/StringLatin1"), (32, u "()Z"), (220, u "([BI)C"), (27, u "(II)V"), (35, u "(I)C"), (64, .methodref 10 493), (0, .nameAndType 494 142), (0, u "isLatin1"), (0, .methodref 107 496), (0, .nameAndType 497 363), (0, u "charAt"), (3, u "checkIndex"), (73, .class_ 576), (0, u "java/lang/CharSequence"), (22, u "CASE_INSENSITIVE_ORDER"), (0, u "Ljava/util/Comparator;"), (452, .fieldref 1054 1055), (0, .class_ 1056), (0, .nameAndType 1057 1058), (0, u "jdk/internal/util/Preconditions"), (0, u "SIOOBE_FORMATTER"), (0, u "Ljava/util/function/BiFunction;"), (0, .methodref 1054 1060), (0, .nameAndType 501 1061), (0, u "(IILjava/util/function/BiFunction;)I"), (39, u "serialPersistentFields"), (0, u "[Ljava/io/ObjectStreamField;"), (0, .class_ 1104), (0, u "java/lang/String$CaseInsensitiveComparator"), (1, .class_ 1107), (0, u "java/io/Serializable"), (0, .class_ 1109), (0, u "java/lang/Comparable"), (0, .class_ 1111), (0, u "java/lang/constant/Constable"), (0, .class_ 1113), (0, u "java/lang/constant/ConstantDesc"), (2, u "serialVersionUID"), (0, u "J"), (3, u "REPL"), (0, u "C"), (2, u "LATIN1"), (1, u "UTF16")] 323

def k8m0 : Method := { name := "<init>", desc := "()V", sig := { parameters := [], returnType := none }, accessFlags := 1, code := none }
def k8c1 : Code := { maxStack := 2, maxLocals := 2, code := jdk_42_method_56_code, exceptionTable := #[], attributes := #[] }
def k8m1 : Method := { name := "charAt", desc := "(I)C", sig := { parameters := [.int], returnType := some .char }, accessFlags := 1, code := some k8c1 }
def k8c2 : Code := { maxStack := 1, maxLocals := 1, code := jdk_42_method_154_code, exceptionTable := #[], attributes := #[] }
def k8m2 : Method := { name := "isLatin1", desc := "()Z", sig := { parameters := [], returnType := some .boolean }, accessFlags := 0, code := some k8c2 }
def k8c3 : Code := { maxStack := 3, maxLocals := 2, code := jdk_42_method_155_code, exceptionTable := #[], attributes := #[] }
def k8m3 : Method := { name := "checkIndex", desc := "(II)V", sig := { parameters := [.int, .int], returnType := none }, accessFlags := 8, code := some k8c3 }
/-- java/lang/String -/
def k8 : Class := { plain "java/lang/String" (some 0) with
  accessFlags := 49
  interfaces := #[3, 4, 5, 6, 7]
  cf := some (fileOf pool8 10 #[.nestMembers #[1103]] #[{ accessFlags := 1, nameIndex := 5, descriptorIndex := 6, attributes := #[] }, { accessFlags := 1, nameIndex := 497, descriptorIndex := 427, attributes := #[] }, { accessFlags := 0, nameIndex := 494, descriptorIndex := 142, attributes := #[] }, { accessFlags := 8, nameIndex := 501, descriptorIndex := 391, attributes := #[] }] 49 2 #[1106, 1108, 575, 1110, 1112] #[{ accessFlags := 18, nameIndex := 13, descriptorIndex := 14, attributes := #[] }, { accessFlags := 18, nameIndex := 17, descriptorIndex := 18, attributes := #[] }, { accessFlags := 2, nameIndex := 21, descriptorIndex := 22, attributes := #[] }, { accessFlags := 2, nameIndex := 25, descriptorIndex := 26, attributes := #[] }, { accessFlags := 26, nameIndex := 1116, descriptorIndex := 1117, attributes := #[] }, { accessFlags := 24, nameIndex := 40, descriptorIndex := 26, attributes := #[] }, { accessFlags := 26, nameIndex := 1101, descriptorIndex := 1102, attributes := #[] }, { accessFlags := 26, nameIndex := 1121, descriptorIndex := 1122, attributes := #[] }, { accessFlags := 25, nameIndex := 599, descriptorIndex := 600, attributes := #[] }, { accessFlags := 24, nameIndex := 1125, descriptorIndex := 18, attributes := #[] }, { accessFlags := 24, nameIndex := 1127, descriptorIndex := 18, attributes := #[] }])
  fields := #[{ name := "value", type := (.array .byte), accessFlags := 18, slot := 0, constantValue := 0 }, { name := "coder", type := .byte, accessFlags := 18, slot := 1, constantValue := 0 }, { name := "hash", type := .int, accessFlags := 2, slot := 2, constantValue := 0 }, { name := "hashIsZero", type := .boolean, accessFlags := 2, slot := 3, constantValue := 0 }, { name := "serialVersionUID", type := .long, accessFlags := 26, slot := 0, constantValue := 0 }, { name := "COMPACT_STRINGS", type := .boolean, accessFlags := 24, slot := 1, constantValue := 0 }, { name := "serialPersistentFields", type := (.array (.object "java/io/ObjectStreamField")), accessFlags := 26, slot := 2, constantValue := 0 }, { name := "REPL", type := .char, accessFlags := 26, slot := 3, constantValue := 0 }, { name := "CASE_INSENSITIVE_ORDER", type := (.object "java/util/Comparator"), accessFlags := 25, slot := 4, constantValue := 0 }, { name := "LATIN1", type := .byte, accessFlags := 24, slot := 5, constantValue := 0 }, { name := "UTF16", type := .byte, accessFlags := 24, slot := 6, constantValue := 0 }]
  methods := #[k8m0, k8m1, k8m2, k8m3]
  instanceTypes := #[(.array .byte), .byte, .int, .boolean]
  staticTypes := #[.long, .boolean, (.array (.object "java/io/ObjectStreamField")), .char, (.object "java/util/Comparator"), .byte, .byte]
  resolved := Array.replicate 1451 none
  statics := some 0 }

def pool9 : Array CpInfo := pool [(1, .class_ 2), (0, u "java/lang/String"), (1, .class_ 6), (1, u "java/lang/Object"), (0, u "<init>"), (0, u "()V"), (0, .methodref 1 10), (0, .nameAndType 11 12), (0, u "checkIndex"), (0, u "(II)V"), (1, .class_ 16), (1, u "java/lang/StringLatin1"), (36, u "([BI)C"), (67, u "$assertionsDisabled"), (0, u "Z"), (98, .class_ 223), (1, u "java/lang/StringLatin1$LinesSpliterator"), (28, u "charAt"), (137, .class_ 391), (0, u "java/lang/StringLatin1$CharsSpliterator")] 3

def k9m0 : Method := { name := "<init>", desc := "()V", sig := { parameters := [], returnType := none }, accessFlags := 0, code := none }
def k9c1 : Code := { maxStack := 2, maxLocals := 2, code := jdk_43_method_2_code, exceptionTable := #[], attributes := #[] }
def k9m1 : Method := { name := "charAt", desc := "([BI)C", sig := { parameters := [(.array .byte), .int], returnType := some .char }, accessFlags := 9, code := some k9c1 }
/-- java/lang/StringLatin1 -/
def k9 : Class := { plain "java/lang/StringLatin1" (some 0) with
  accessFlags := 48
  interfaces := #[]
  cf := some (fileOf pool9 14 #[.nestMembers #[390, 221]] #[{ accessFlags := 0, nameIndex := 7, descriptorIndex := 8, attributes := #[] }, { accessFlags := 9, nameIndex := 252, descriptorIndex := 53, attributes := #[] }] 48 4 #[] #[{ accessFlags := 4120, nameIndex := 121, descriptorIndex := 122, attributes := #[] }])
  fields := #[{ name := "$assertionsDisabled", type := .boolean, accessFlags := 4120, slot := 0, constantValue := 0 }]
  methods := #[k9m0, k9m1]
  instanceTypes := #[]
  staticTypes := #[.boolean]
  resolved := Array.replicate 395 none
  statics := none }

def pool10 : Array CpInfo := pool [(2, .class_ 4), (1, u "java/lang/Object"), (0, u "<init>"), (0, u "()V"), (17, .class_ 26), (1, u "jdk/internal/util/Preconditions"), (6, u "checkIndex"), (21, .class_ 56), (0, u "jdk/internal/util/Preconditions$4"), (57, .class_ 115), (0, u "jdk/internal/util/Preconditions$1"), (7, u "SIOOBE_FORMATTER"), (0, u "Ljava/util/function/BiFunction;"), (0, .class_ 126), (0, u "jdk/internal/util/Preconditions$2"), (3, u "AIOOBE_FORMATTER"), (0, .class_ 132), (0, u "jdk/internal/util/Preconditions$3"), (3, u "IOOBE_FORMATTER"), (41, u "(IILjava/util/function/BiFunction;)I")] 15

def k10m0 : Method := { name := "<init>", desc := "()V", sig := { parameters := [], returnType := none }, accessFlags := 1, code := none }
def k10c1 : Code := { maxStack := 3, maxLocals := 3, code := jdk_41_method_11_code, exceptionTable := #[], attributes := #[] }
def k10m1 : Method := { name := "checkIndex", desc := "(IILjava/util/function/BiFunction;)I", sig := { parameters := [.int, .int, (.object "java/util/function/BiFunction")], returnType := some .int }, accessFlags := 9, code := some k10c1 }
/-- jdk/internal/util/Preconditions -/
def k10 : Class := { plain "jdk/internal/util/Preconditions" (some 0) with
  accessFlags := 33
  interfaces := #[]
  cf := some (fileOf pool10 24 #[.nestMembers #[55, 131, 125, 114]] #[{ accessFlags := 1, nameIndex := 5, descriptorIndex := 6, attributes := #[] }, { accessFlags := 9, nameIndex := 33, descriptorIndex := 178, attributes := #[] }] 33 2 #[] #[{ accessFlags := 25, nameIndex := 123, descriptorIndex := 124, attributes := #[] }, { accessFlags := 25, nameIndex := 130, descriptorIndex := 124, attributes := #[] }, { accessFlags := 25, nameIndex := 136, descriptorIndex := 124, attributes := #[] }])
  fields := #[{ name := "SIOOBE_FORMATTER", type := (.object "java/util/function/BiFunction"), accessFlags := 25, slot := 0, constantValue := 0 }, { name := "AIOOBE_FORMATTER", type := (.object "java/util/function/BiFunction"), accessFlags := 25, slot := 1, constantValue := 0 }, { name := "IOOBE_FORMATTER", type := (.object "java/util/function/BiFunction"), accessFlags := 25, slot := 2, constantValue := 0 }]
  methods := #[k10m0, k10m1]
  instanceTypes := #[]
  staticTypes := #[(.object "java/util/function/BiFunction"), (.object "java/util/function/BiFunction"), (.object "java/util/function/BiFunction")]
  resolved := Array.replicate 194 none
  statics := some 1 }

def pool11 : Array CpInfo := pool [(9, u "<init>"), (6, .class_ 18), (1, u "java/lang/Object"), (0, u "()V"), (1, .class_ 23), (1, u "jdk/internal/util/ArraysSupport"), (0, u "LOG2_ARRAY_LONG_INDEX_SCALE"), (0, u "I"), (2, u "U"), (0, u "Ljdk/internal/misc/Unsafe;"), (8, u "BIG_ENDIAN"), (0, u "Z"), (8, u "LOG2_BYTE_BIT_SIZE"), (4, u "LOG2_ARRAY_INT_INDEX_SCALE"), (54, u "JLA"), (0, u "Ljdk/internal/access/JavaLangAccess;"), (11, u "LOG2_ARRAY_BOOLEAN_INDEX_SCALE"), (9, u "LOG2_ARRAY_BYTE_INDEX_SCALE"), (5, u "LOG2_ARRAY_CHAR_INDEX_SCALE"), (5, u "LOG2_ARRAY_SHORT_INDEX_SCALE"), (18, u "LOG2_ARRAY_FLOAT_INDEX_SCALE"), (24, u "LOG2_ARRAY_DOUBLE_INDEX_SCALE"), (89, u "T_BOOLEAN"), (2, u "T_CHAR"), (1, u "T_FLOAT"), (1, u "T_DOUBLE"), (1, u "T_BYTE"), (1, u "T_SHORT"), (1, u "T_INT"), (1, u "T_LONG"), (1, u "SOFT_MAX_ARRAY_LENGTH")] 83

def k11m0 : Method := { name := "<init>", desc := "()V", sig := { parameters := [], returnType := none }, accessFlags := 2, code := none }
/-- jdk/internal/util/ArraysSupport -/
def k11 : Class := { plain "jdk/internal/util/ArraysSupport" (some 0) with
  accessFlags := 33
  interfaces := #[]
  cf := some (fileOf pool11 21 #[] #[{ accessFlags := 2, nameIndex := 9, descriptorIndex := 19, attributes := #[] }] 33 16 #[] #[{ accessFlags := 24, nameIndex := 28, descriptorIndex := 29, attributes := #[] }, { accessFlags := 26, nameIndex := 38, descriptorIndex := 39, attributes := #[] }, { accessFlags := 25, nameIndex := 121, descriptorIndex := 25, attributes := #[] }, { accessFlags := 25, nameIndex := 131, descriptorIndex := 25, attributes := #[] }, { accessFlags := 25, nameIndex := 137, descriptorIndex := 25, attributes := #[] }, { accessFlags := 25, nameIndex := 143, descriptorIndex := 25, attributes := #[] }, { accessFlags := 25, nameIndex := 53, descriptorIndex := 25, attributes := #[] }, { accessFlags := 25, nameIndex := 24, descriptorIndex := 25, attributes := #[] }, { accessFlags := 25, nameIndex := 162, descriptorIndex := 25, attributes := #[] }, { accessFlags := 25, nameIndex := 187, descriptorIndex := 25, attributes := #[] }, { accessFlags := 26, nameIndex := 48, descriptorIndex := 25, attributes := #[] }, { accessFlags := 25, nameIndex := 277, descriptorIndex := 25, attributes := #[] }, { accessFlags := 25, nameIndex := 280, descriptorIndex := 25, attributes := #[] }, { accessFlags := 25, nameIndex := 282, descriptorIndex := 25, attributes := #[] }, { accessFlags := 25, nameIndex := 284, descriptorIndex := 25, attributes := #[] }, { accessFlags := 25, nameIndex := 286, descriptorIndex := 25, attributes := #[] }, { accessFlags := 25, nameIndex := 288, descriptorIndex := 25, attributes := #[] }, { accessFlags := 25, nameIndex := 290, descriptorIndex := 25, attributes := #[] }, { accessFlags := 25, nameIndex := 292, descriptorIndex := 25, attributes := #[] }, { accessFlags := 26, nameIndex := 108, descriptorIndex := 109, attributes := #[] }, { accessFlags := 25, nameIndex := 294, descriptorIndex := 25, attributes := #[] }])
  fields := #[{ name := "U", type := (.object "jdk/internal/misc/Unsafe"), accessFlags := 24, slot := 0, constantValue := 0 }, { name := "BIG_ENDIAN", type := .boolean, accessFlags := 26, slot := 1, constantValue := 0 }, { name := "LOG2_ARRAY_BOOLEAN_INDEX_SCALE", type := .int, accessFlags := 25, slot := 2, constantValue := 0 }, { name := "LOG2_ARRAY_BYTE_INDEX_SCALE", type := .int, accessFlags := 25, slot := 3, constantValue := 0 }, { name := "LOG2_ARRAY_CHAR_INDEX_SCALE", type := .int, accessFlags := 25, slot := 4, constantValue := 0 }, { name := "LOG2_ARRAY_SHORT_INDEX_SCALE", type := .int, accessFlags := 25, slot := 5, constantValue := 0 }, { name := "LOG2_ARRAY_INT_INDEX_SCALE", type := .int, accessFlags := 25, slot := 6, constantValue := 0 }, { name := "LOG2_ARRAY_LONG_INDEX_SCALE", type := .int, accessFlags := 25, slot := 7, constantValue := 0 }, { name := "LOG2_ARRAY_FLOAT_INDEX_SCALE", type := .int, accessFlags := 25, slot := 8, constantValue := 0 }, { name := "LOG2_ARRAY_DOUBLE_INDEX_SCALE", type := .int, accessFlags := 25, slot := 9, constantValue := 0 }, { name := "LOG2_BYTE_BIT_SIZE", type := .int, accessFlags := 26, slot := 10, constantValue := 0 }, { name := "T_BOOLEAN", type := .int, accessFlags := 25, slot := 11, constantValue := 0 }, { name := "T_CHAR", type := .int, accessFlags := 25, slot := 12, constantValue := 0 }, { name := "T_FLOAT", type := .int, accessFlags := 25, slot := 13, constantValue := 0 }, { name := "T_DOUBLE", type := .int, accessFlags := 25, slot := 14, constantValue := 0 }, { name := "T_BYTE", type := .int, accessFlags := 25, slot := 15, constantValue := 0 }, { name := "T_SHORT", type := .int, accessFlags := 25, slot := 16, constantValue := 0 }, { name := "T_INT", type := .int, accessFlags := 25, slot := 17, constantValue := 0 }, { name := "T_LONG", type := .int, accessFlags := 25, slot := 18, constantValue := 0 }, { name := "JLA", type := (.object "jdk/internal/access/JavaLangAccess"), accessFlags := 26, slot := 19, constantValue := 0 }, { name := "SOFT_MAX_ARRAY_LENGTH", type := .int, accessFlags := 25, slot := 20, constantValue := 0 }]
  methods := #[k11m0]
  instanceTypes := #[]
  staticTypes := #[(.object "jdk/internal/misc/Unsafe"), .boolean, .int, .int, .int, .int, .int, .int, .int, .int, .int, .int, .int, .int, .int, .int, .int, .int, .int, (.object "jdk/internal/access/JavaLangAccess"), .int]
  resolved := Array.replicate 378 none
  statics := none }

def pool12 : Array CpInfo := pool [(1, u "java/lang/Cloneable"), (0, .class_ 1), (0, u "java/lang/Object"), (0, .class_ 3)] 3

/-- java/lang/Cloneable -/
def k12 : Class := { plain "java/lang/Cloneable" (some 0) with
  accessFlags := 1537
  interfaces := #[]
  cf := some (fileOf pool12 2 #[] #[] 1537 4 #[] #[])
  fields := #[]
  methods := #[]
  instanceTypes := #[]
  staticTypes := #[]
  resolved := Array.replicate 8 none
  statics := none }

/-- the primitive byte -/
def k13 : Class := { plain "byte" none with kind := .primitive 'B', accessFlags := 0x411 }
/-- [B -/
def k14 : Class := { plain "[B" (some 0) with kind := .array 13 .byte, interfaces := #[12, 3], accessFlags := 1041 }

/-- the primitive int -/
def k15 : Class := { plain "int" none with kind := .primitive 'I', accessFlags := 0x411 }
/-- [I -/
def k16 : Class := { plain "[I" (some 0) with kind := .array 15 .int, interfaces := #[12, 3], accessFlags := 1041 }

def heap : Heap := #[{ cls := 8, slots := #[.long 0, .int 1, .null, .int 0, .null, .int 0, .int 0], vm := .statics 8 },
  { cls := 10, slots := #[.null, .null, .null], vm := .statics 10 }]
def classes : Array Class := #[k0, k1, k2, k3, k4, k5, k6, k7, k8, k9, k10, k11, k12, k13, k14, k15, k16]
def interned : List (Array UInt16 × Addr) := []
def slotsUsed : Nat := 10
def theMethod : MethodId := ⟨1, 2⟩
def args0 : Array Value := #[.int 5, .int 6]
def aboutOver (below : List Frame) : State where
  vm := { classes := classes, interned := interned.toArray }
  heap := heap
  slotsUsed := slotsUsed
  threads := #[{ frames := .invoking theMethod args0 :: below }]
def below0 : List Frame := [.native { method := ⟨0, 0⟩, args := #[] }]
def about1 : State := aboutOver below0
def p0 : Program := .bare "" "" ""
def e0 : Env := launch0.env 0 0 0
theorem w_frames : about1.frames = Frame.invoking theMethod args0 :: below0 := rfl
set_option maxRecDepth 65536 in
theorem w_args : argsFit about1.vm theMethod args0 = true := by decide +kernel
set_option maxRecDepth 65536 in
theorem w_heap : heapFits about1 = true := by decide +kernel
set_option maxRecDepth 65536 in
theorem w_runnable : about1.curStatus? = some .runnable := by decide +kernel
set_option maxRecDepth 65536 in
theorem w_alone : about1.alone = true := by decide +kernel
set_option maxRecDepth 65536 in
theorem w_named : about1.methodNamed? x = some theMethod := by decide +kernel
set_option maxRecDepth 65536 in
theorem w_hears : about1.hears theMethod below0 = true := by decide +kernel
set_option maxRecDepth 65536 in
theorem w_ripe : about1.ripe theMethod args0 below0 = true := by decide +kernel
theorem w_running : about1.status = .running := rfl
set_option maxRecDepth 65536 in
theorem w_room : about1.hasRoom e0.platform room_1 = true :=
  launch0.hasRoom_least _ room_1 (by decide +kernel) (by decide +kernel) (by decide +kernel) (by decide +kernel) (by decide +kernel) (by decide +kernel)
theorem allAtoms_all (ts : List Jvm.Cond) (a : Array Jvm.Value) (st : Jvm.State) : (allAtoms ts).before a st = ts.all (fun c => c.before a st) := by
  induction ts with
  | nil => rfl
  | cons c t ih =>
    show (Jvm.Cond.and c (allAtoms t)).before a st = _
    rw [Jvm.Cond.before_and, ih, List.all_cons]
def words1 : List Jvm.Cond := Jvm.Cond.code x code maxLocals ret :: tables_1
/-- a 'code' word, met by the world's own term for the bytes: nothing is compared byte by byte -/
theorem code_word {y : MethodName} {bytes : ByteArray} {mx : Nat} {rt : Option FieldType} {a : Array Value} {s : State} {m : MethodId} {meth : Method} {c : Code} (h1 : s.methodNamed? y = some m) (h2 : s.vm.method? m = some meth) (h3 : meth.code = some c) (h4 : c.code = bytes)
    (h5 : (c.maxLocals == mx && c.exceptionTable.isEmpty && decide (c.maxStack ≤ mostOperands) && decide (meth.sig.returnType = rt) && !meth.locks && decide (parseMethodDescriptor y.desc = some meth.sig)) = true) : (Jvm.Cond.code y bytes mx rt).before a s = true := by
  simp only [Bool.and_eq_true, beq_iff_eq, Bool.not_eq_true', decide_eq_true_eq] at h5
  obtain ⟨⟨⟨⟨⟨g1, g2⟩, g3⟩, g4⟩, g5⟩, g6⟩ := h5
  simp [Cond.before, Cond.holds, Cond.value, h1, h2, h3, h4, g1, g2, g3, g4, g5, g6]
def isCode : Jvm.Cond → Bool
  | .code _ _ _ _ => true
  | _ => false
theorem all_split {L : List Jvm.Cond} {P : Jvm.Cond → Bool} (h1 : L.all (fun c => isCode c || P c) = true) (h2 : ∀ c ∈ L.filter isCode, P c = true) : L.all P = true := by
  refine List.all_eq_true.mpr fun c hc => ?_
  have h := List.all_eq_true.mp h1 c hc
  rcases Bool.eq_false_or_eq_true (isCode c) with hi | hi
  · exact h2 c (List.mem_filter.mpr ⟨hc, hi⟩)
  · simpa [hi] using h
set_option maxRecDepth 65536 in
theorem w_c0 : (Jvm.Cond.code x code maxLocals ret).before args0 about1 = true := code_word (m := ⟨1, 2⟩) (meth := k1m2) (c := k1c2) (by decide +kernel) rfl rfl rfl (by decide +kernel)
set_option maxRecDepth 65536 in
theorem w_c1 : (Jvm.Cond.code ({ cls := "com/example/folioscope/folioscope/image/TiffDirectory", name := "valueBytes", desc := "(I)I" } : Jvm.MethodName) prog_86_method_16_code (1 : Nat) (Option.some Jvm.ClassFile.FieldType.int)).before args0 about1 = true := code_word (m := ⟨2, 0⟩) (meth := k2m0) (c := k2c0) (by decide +kernel) rfl rfl rfl (by decide +kernel)
set_option maxRecDepth 65536 in
theorem w_c2 : (Jvm.Cond.code ({ cls := "com/example/folioscope/folioscope/image/TiffDirectoryValueBytesPinLaw", name := "expected", desc := "(I)I" } : Jvm.MethodName) method_2_code (2 : Nat) (Option.some Jvm.ClassFile.FieldType.int)).before args0 about1 = true := code_word (m := ⟨1, 1⟩) (meth := k1m1) (c := k1c1) (by decide +kernel) rfl rfl rfl (by decide +kernel)
set_option maxRecDepth 65536 in
theorem w_c3 : (Jvm.Cond.code ({ cls := "java/lang/String", name := "charAt", desc := "(I)C" } : Jvm.MethodName) jdk_42_method_56_code (2 : Nat) (Option.some Jvm.ClassFile.FieldType.char)).before args0 about1 = true := code_word (m := ⟨8, 1⟩) (meth := k8m1) (c := k8c1) (by decide +kernel) rfl rfl rfl (by decide +kernel)
set_option maxRecDepth 65536 in
theorem w_c4 : (Jvm.Cond.code ({ cls := "java/lang/String", name := "isLatin1", desc := "()Z" } : Jvm.MethodName) jdk_42_method_154_code (1 : Nat) (Option.some Jvm.ClassFile.FieldType.boolean)).before args0 about1 = true := code_word (m := ⟨8, 2⟩) (meth := k8m2) (c := k8c2) (by decide +kernel) rfl rfl rfl (by decide +kernel)
set_option maxRecDepth 65536 in
theorem w_c5 : (Jvm.Cond.code ({ cls := "java/lang/StringLatin1", name := "charAt", desc := "([BI)C" } : Jvm.MethodName) jdk_43_method_2_code (2 : Nat) (Option.some Jvm.ClassFile.FieldType.char)).before args0 about1 = true := code_word (m := ⟨9, 1⟩) (meth := k9m1) (c := k9c1) (by decide +kernel) rfl rfl rfl (by decide +kernel)
set_option maxRecDepth 65536 in
theorem w_c6 : (Jvm.Cond.code ({ cls := "java/lang/String", name := "checkIndex", desc := "(II)V" } : Jvm.MethodName) jdk_42_method_155_code (2 : Nat) (Option.none : Option Jvm.ClassFile.FieldType)).before args0 about1 = true := code_word (m := ⟨8, 3⟩) (meth := k8m3) (c := k8c3) (by decide +kernel) rfl rfl rfl (by decide +kernel)
set_option maxRecDepth 65536 in
theorem w_c7 : (Jvm.Cond.code ({ cls := "jdk/internal/util/Preconditions", name := "checkIndex", desc := "(IILjava/util/function/BiFunction;)I" } : Jvm.MethodName) jdk_41_method_11_code (3 : Nat) (Option.some Jvm.ClassFile.FieldType.int)).before args0 about1 = true := code_word (m := ⟨10, 1⟩) (meth := k10m1) (c := k10c1) (by decide +kernel) rfl rfl rfl (by decide +kernel)
def codes1 : List Jvm.Cond := [Jvm.Cond.code x code maxLocals ret, Jvm.Cond.code ({ cls := "com/example/folioscope/folioscope/image/TiffDirectory", name := "valueBytes", desc := "(I)I" } : Jvm.MethodName) prog_86_method_16_code (1 : Nat) (Option.some Jvm.ClassFile.FieldType.int), Jvm.Cond.code ({ cls := "com/example/folioscope/folioscope/image/TiffDirectoryValueBytesPinLaw", name := "expected", desc := "(I)I" } : Jvm.MethodName) method_2_code (2 : Nat) (Option.some Jvm.ClassFile.FieldType.int), Jvm.Cond.code ({ cls := "java/lang/String", name := "charAt", desc := "(I)C" } : Jvm.MethodName) jdk_42_method_56_code (2 : Nat) (Option.some Jvm.ClassFile.FieldType.char), Jvm.Cond.code ({ cls := "java/lang/String", name := "isLatin1", desc := "()Z" } : Jvm.MethodName) jdk_42_method_154_code (1 : Nat) (Option.some Jvm.ClassFile.FieldType.boolean), Jvm.Cond.code ({ cls := "java/lang/StringLatin1", name := "charAt", desc := "([BI)C" } : Jvm.MethodName) jdk_43_method_2_code (2 : Nat) (Option.some Jvm.ClassFile.FieldType.char), Jvm.Cond.code ({ cls := "java/lang/String", name := "checkIndex", desc := "(II)V" } : Jvm.MethodName) jdk_42_method_155_code (2 : Nat) (Option.none : Option Jvm.ClassFile.FieldType), Jvm.Cond.code ({ cls := "jdk/internal/util/Preconditions", name := "checkIndex", desc := "(IILjava/util/function/BiFunction;)I" } : Jvm.MethodName) jdk_41_method_11_code (3 : Nat) (Option.some Jvm.ClassFile.FieldType.int)]
set_option maxRecDepth 65536 in
theorem codes_eq : words1.filter isCode = codes1 := rfl
theorem w_codes : ∀ c ∈ words1.filter isCode, c.before args0 about1 = true := by
  rw [codes_eq]
  intro c hc
  simp only [codes1, List.mem_cons, List.not_mem_nil, or_false] at hc
  rcases hc with rfl | rfl | rfl | rfl | rfl | rfl | rfl | rfl
  · exact w_c0
  · exact w_c1
  · exact w_c2
  · exact w_c3
  · exact w_c4
  · exact w_c5
  · exact w_c6
  · exact w_c7
set_option maxRecDepth 65536 in
theorem w_t1 : (words1.take 24).all (fun c => isCode c || c.before args0 about1) = true := by decide +kernel
set_option maxRecDepth 65536 in
theorem w_t2 : (words1.drop 24).all (fun c => isCode c || c.before args0 about1) = true := by decide +kernel
theorem w_tables : (allAtoms (Jvm.Cond.code x code maxLocals ret :: tables_1)).before args0 about1 = true := by
  rw [allAtoms_all]
  show words1.all (fun c => c.before args0 about1) = true
  refine all_split ?_ w_codes
  rw [← List.take_append_drop 24 words1, List.all_append, w_t1, w_t2]
  rfl
set_option maxRecDepth 65536 in
theorem w_rest : rest_1_c.before args0 about1 = true := by decide +kernel
set_option maxRecDepth 65536 in
theorem w_case : (Jvm.Cond.and given_1 narrow_1).before args0 about1 = true := by decide +kernel
set_option maxRecDepth 65536 in
theorem w_consts : constsHeld consts_1 about1 := Jvm.Lit.constsHeldB_iff.mp (by decide +kernel)
theorem w_applies : (headSpec (Jvm.Cond.code x code maxLocals ret :: tables_1) room_1).applies x e0.platform about1 = true :=
  (Spec.applies_iff w_frames).mpr ⟨w_running, w_runnable, w_alone, w_named, w_hears, w_ripe, w_room, w_tables⟩
theorem atStart : AtStart classFile x code maxLocals ret World_1 tables_1 room_1 Calls_1 rest_1 Pre_1 launch0 p0 e0 about1 theMethod args0 below0 :=
  ⟨lists_1, trivial, launch0.admits_env _ _ _, launch0.least_env, fairChoices_fair.cas, fairChoices_fair.clock, w_frames, w_args, w_heap, w_applies, ⟨w_consts, trivial⟩, w_rest, w_case⟩
end start1
theorem witness_1 : WitnessClaimed_1 := ⟨start1.p0, start1.e0, start1.about1, start1.theMethod, start1.args0, start1.below0, start1.atStart⟩
end Jvm.Pilot.@@N@@
