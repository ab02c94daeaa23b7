import JvmDerived
import JvmDerived.Pilot.@@N@@Statement
import JvmDerived.Pilot.@@N@@Code
set_option linter.unusedVariables false
set_option linter.unusedSimpArgs false
@@BLOCK:NumsL.lean.txt@@
namespace Jvm.Pilot.@@N@@
open Jvm Jvm.ClassFile Sem Op Lib Jvm.Free Jvm.Stand Jvm.LawKit Jvm.RoadKit Bundle Jvm.Pilot.@@N@@.Jvm.D
/-! The walk in the continuation's form: 'Goes' says of a place (state, frame) that from it the body ends as Q says. -/
def Goes (p : Program) (e : Env) (below : List Frame) (s : State) (Q : Option Value → Heap → List Loc → Prop) (k n : Nat) (T : State) (g : JFrame) : Prop :=
  ∃ s₂ o, Steps p.tables e below (T.setTop g) s₂ ∧ s₂.status = .running ∧ Ended s₂ below o ∧ ∃ v L, o = .returned v ∧ Q v s₂.heap L ∧ FrameEnd s o s₂ L k n
section OwnKit
variable {p : Program} {l : Launch} {e : Env} {R : Room} {s : State} {m : MethodId} {args : Array Value} {below : List Frame} {meth : Method} {c : Code} {T T' : State} {locs : List Loc} {cells slots : Nat} {Q : Option Value → Heap → List Loc → Prop} {k n : Nat} {g g' : JFrame}
theorem own_go (f : ∀ t, Steps p.tables e below (T'.setTop g') t → Steps p.tables e below (T.setTop g) t) (h : Goes p e below s Q k n T' g') : Goes p e below s Q k n T g := by
  obtain ⟨a, b, h1, r⟩ := h
  exact ⟨a, b, f _ h1, r⟩
theorem own_tr (f : Steps p.tables e below (T.setTop g) (T'.setTop g')) (h : Goes p e below s Q k n T' g') : Goes p e below s Q k n T g := by
  obtain ⟨a, b, h1, r⟩ := h
  exact ⟨a, b, f.trans h1, r⟩
theorem own_ret (X : Stand p l e R s m args below meth c T locs cells slots) (hx : p.tables.exec = Jvm.exec) {pc : Nat} {Ls : Array Slot} {w : Value} {t : FieldType} {i : Instr} {rest : List Value} (hret : meth.sig.returnType = some t) (hlocks : meth.locks = false) (hn : narrow t w = w)
    (hi : (i = .ireturn ∧ (t = .int ∨ t = .boolean ∨ t = .byte ∨ t = .char ∨ t = .short) ∧ ∃ z, w = .int z) ∨ (i = .lreturn ∧ t = .long ∧ ∃ z, w = .long z) ∨ (i = .dreturn ∧ t = .double ∧ ∃ z, w = .double z) ∨ (i = .freturn ∧ t = .float ∧ ∃ z, w = .float z) ∨ (i = .areturn ∧ t.isReference = true ∧ w.isRef = true))
    (hd : decode c.code pc = .ok (i, 1)) (hQ : Q (some w) T.heap locs) (hc : cells ≤ k) (hs : slots ≤ n) : Goes p e below s Q k n T (mkF m pc Ls (w :: rest)) := by
  obtain ⟨fs, hr, hrun, hended, hW, hsame⟩ := X.leave (v := some w) (fun h => by rw [hret] at h; cases h) hlocks
  exact ⟨_, _, retOut X hx hret hn hi hd hr, hrun, hended, _, _, rfl, hQ, ⟨_, rfl⟩, hW, hsame.mono hc hs⟩
theorem own_retI (X : Stand p l e R s m args below meth c T locs cells slots) (hx : p.tables.exec = Jvm.exec) {pc : Nat} {Ls : Array Slot} {z : Int32} {rest : List Value} (hret : meth.sig.returnType = some .int) (hlocks : meth.locks = false)
    (hd : decode c.code pc = .ok (.ireturn, 1)) (hQ : Q (some (.int z)) T.heap locs) (hc : cells ≤ k) (hs : slots ≤ n) : Goes p e below s Q k n T (mkF m pc Ls (.int z :: rest)) :=
  own_ret X hx hret hlocks rfl (Or.inl ⟨rfl, Or.inl rfl, z, rfl⟩) hd hQ hc hs
theorem own_retZ (X : Stand p l e R s m args below meth c T locs cells slots) (hx : p.tables.exec = Jvm.exec) {pc : Nat} {Ls : Array Slot} {z : Int32} {rest : List Value} (hret : meth.sig.returnType = some .boolean) (hlocks : meth.locks = false) (hz : z = 0 ∨ z = 1)
    (hd : decode c.code pc = .ok (.ireturn, 1)) (hQ : Q (some (.int z)) T.heap locs) (hc : cells ≤ k) (hs : slots ≤ n) : Goes p e below s Q k n T (mkF m pc Ls (.int z :: rest)) :=
  own_ret X hx hret hlocks (by rcases hz with rfl | rfl <;> rfl) (Or.inl ⟨rfl, Or.inr (Or.inl rfl), z, rfl⟩) hd hQ hc hs
theorem own_retJ (X : Stand p l e R s m args below meth c T locs cells slots) (hx : p.tables.exec = Jvm.exec) {pc : Nat} {Ls : Array Slot} {z : Int64} {rest : List Value} (hret : meth.sig.returnType = some .long) (hlocks : meth.locks = false)
    (hd : decode c.code pc = .ok (.lreturn, 1)) (hQ : Q (some (.long z)) T.heap locs) (hc : cells ≤ k) (hs : slots ≤ n) : Goes p e below s Q k n T (mkF m pc Ls (.long z :: rest)) :=
  own_ret X hx hret hlocks rfl (Or.inr (Or.inl ⟨rfl, rfl, z, rfl⟩)) hd hQ hc hs
theorem own_retA (X : Stand p l e R s m args below meth c T locs cells slots) (hx : p.tables.exec = Jvm.exec) {pc : Nat} {Ls : Array Slot} {w : Value} {t : FieldType} {rest : List Value} (hret : meth.sig.returnType = some t) (ht : t.isReference = true) (hlocks : meth.locks = false) (hw : w.isRef = true)
    (hd : decode c.code pc = .ok (.areturn, 1)) (hQ : Q (some w) T.heap locs) (hc : cells ≤ k) (hs : slots ≤ n) : Goes p e below s Q k n T (mkF m pc Ls (w :: rest)) :=
  own_ret X hx hret hlocks (by cases t <;> simp [FieldType.isReference] at ht <;> cases w <;> simp [Value.isRef] at hw <;> rfl) (Or.inr (Or.inr (Or.inr (Or.inr ⟨rfl, ht, hw⟩)))) hd hQ hc hs
theorem own_retV (X : Stand p l e R s m args below meth c T locs cells slots) (hx : p.tables.exec = Jvm.exec) {pc : Nat} {Ls : Array Slot} (hret : meth.sig.returnType = none) (hlocks : meth.locks = false)
    (hd : decode c.code pc = .ok (.return_, 1)) (hQ : Q none T.heap locs) (hc : cells ≤ k) (hs : slots ≤ n) : Goes p e below s Q k n T (mkF m pc Ls []) := by
  obtain ⟨fs, hr, hrun, hended, hW, hsame⟩ := X.leave (v := none) (fun _ => rfl) hlocks
  exact ⟨_, _, X.returnOut hx hret hd hr, hrun, hended, _, _, rfl, hQ, ⟨_, rfl⟩, hW, hsame.mono hc hs⟩
/-- what a callee that writes nothing leaves: its value r, the heap as it was -/
def own_pure (r : Option Value) (h0 : Heap) : Option Value → Heap → List Loc → Prop := fun v h L => v = r ∧ L = [] ∧ h = h0
/-- a callee's contract -/
abbrev Pays (l : Launch) (Z : State) (y : MethodName) (bytes : ByteArray) (maxL : Nat) (ret : Option FieldType) (rm : Room) (as' : Array Value) (h0 : Heap) (Q : Option Value → Heap → List Loc → Prop) : Prop :=
  MetFree l y (head1 [Jvm.Cond.code y bytes maxL ret] rm) (fun a U => a = as' ∧ Z.Warmed39 U.vm ∧ U.heap = h0) (fun _ _ _ _ _ => True) (fun _ U o U' => ∃ v L, o = .returned v ∧ Q v U'.heap L ∧ FrameEnd U o U' L rm.cells rm.slots)
theorem own_callS {Z : State} {a0 : Array Value} {h : Heap} {rm : Room} {W : Nat} {own : String} {index : Nat} {y : MethodName} {bytes : ByteArray} {maxL : Nat} {ret : Option FieldType} {argsL rest : List Value} {r : Option Value}
    (X : Stand p l e R s m args below meth c T locs cells slots) (hx : p.tables.exec = Jvm.exec) (hZ : Z.Warmed39 s.vm) (hown : s.vm.findClass own = some m.cls)
    (wl : (Jvm.Cond.methodLink own index y).before a0 Z = true) (wst : (Jvm.Cond.static y).before a0 Z = true) (wi : (Jvm.Cond.initialized y.cls).before a0 Z = true) (wc : (Jvm.Cond.code y bytes maxL ret).before a0 Z = true)
    (hy : y.cls ≠ "java/lang/invoke/MethodHandle" ∧ y.cls ≠ "java/lang/invoke/VarHandle") (eT : T.heap = h)
    (hM : Pays l Z y bytes maxL ret rm argsL.toArray h (own_pure r h)) (hrc : rm.cells = 0) (hrs : rm.slots = 0) (hcl : cells ≤ R.cells) (hsl : slots ≤ R.slots) (hf : rm.frames + 1 ≤ R.frames) (hl : W + (maxL + 11) + rm.locals ≤ R.locals)
    (hg : g.method = m) (hsize : g.locals.size = c.maxLocals) (hlen : ∀ sig, parseMethodDescriptor y.desc = some sig → argsL.length = sig.parameters.length)
    (hstack : g.stack = argsL.reverse ++ rest) (hW : 2 * g.monitorRoom + (rest.map fun v => v.category).sum ≤ W) (hdg : decode c.code g.pc = .ok (.invokestatic index, 3)) :
    ∃ T', Stand p l e R s m args below meth c T' locs cells slots ∧ T'.heap = h ∧ ∀ t, Steps p.tables e below (T'.setTop { g with pc := g.pc + 3, stack := r.toList ++ rest }) t → Steps p.tables e below (T.setTop g) t := by
  obtain ⟨v, vm₁, ⟨T1, L1, k1, n1⟩, hw1, X1, ⟨Lc, hQ, l1, y1, z1⟩, st⟩ := Jvm.LawKit.callS X hx (y := y) hown (mvT hZ wl) (mvT hZ wst) (mvT hZ wi) (mvT hZ wc) hy (backOf (W := W) hM hZ wc wi hf hl) hg hsize hlen hstack hW hdg (fun _ _ => ⟨rfl, eT, by rw [hrc]; exact hcl, by rw [hrs]; exact hsl⟩)
  dsimp only [Pt.U, Pt.locs, Pt.cells, Pt.slots] at X1 l1 y1 z1 st hQ
  obtain ⟨rfl, rfl, hh⟩ := hQ
  subst l1 y1 z1
  rw [List.append_nil, hrc, hrs, Nat.add_zero, Nat.add_zero] at X1
  exact ⟨T1, X1, hh, st⟩
theorem own_callV {Z : State} {a0 : Array Value} {h : Heap} {rm : Room} {W : Nat} {own C : String} {index : Nat} {y z : MethodName} {bytes : ByteArray} {maxL : Nat} {ret : Option FieldType} {argsL rest : List Value} {r : Option Value} {b : Addr}
    (X : Stand p l e R s m args below meth c T locs cells slots) (hx : p.tables.exec = Jvm.exec) (hZ : Z.Warmed39 s.vm) (hown : s.vm.findClass own = some m.cls)
    (wl : (Jvm.Cond.methodLink own index y).before a0 Z = true) (wd : (Jvm.Cond.declares y).before a0 Z = true) (wsel : (Jvm.Cond.selects C y z).before a0 Z = true) (hnf : NotFace s y) (win : (Jvm.Cond.instanceMethod z).before a0 Z = true) (wi : (Jvm.Cond.initialized z.cls).before a0 Z = true) (wc : (Jvm.Cond.code z bytes maxL ret).before a0 Z = true)
    (hy : y.cls ≠ "java/lang/invoke/MethodHandle" ∧ y.cls ≠ "java/lang/invoke/VarHandle") (eT : T.heap = h) (E : Exa Z h b C)
    (hM : Pays l Z z bytes maxL ret rm (.ref b :: argsL).toArray h (own_pure r h)) (hrc : rm.cells = 0) (hrs : rm.slots = 0) (hcl : cells ≤ R.cells) (hsl : slots ≤ R.slots) (hf : rm.frames + 1 ≤ R.frames) (hl : W + (maxL + 11) + rm.locals ≤ R.locals)
    (hg : g.method = m) (hsize : g.locals.size = c.maxLocals) (hlen : ∀ sig, parseMethodDescriptor y.desc = some sig → argsL.length = sig.parameters.length)
    (hstack : g.stack = argsL.reverse ++ .ref b :: rest) (hW : 2 * g.monitorRoom + (rest.map fun v => v.category).sum ≤ W) (hdg : decode c.code g.pc = .ok (.invokevirtual index, 3)) :
    ∃ T', Stand p l e R s m args below meth c T' locs cells slots ∧ T'.heap = h ∧ ∀ t, Steps p.tables e below (T'.setTop { g with pc := g.pc + 3, stack := r.toList ++ rest }) t → Steps p.tables e below (T.setTop g) t := by
  obtain ⟨cq, kq, qa, qb, qc⟩ := isOf hZ eT E
  obtain ⟨v, vm₁, ⟨T1, L1, k1, n1⟩, hw1, X1, ⟨Lc, hQ, l1, y1, z1⟩, st⟩ := X.virtualBack hx (y := y) (z := z) hown (mvT hZ wl) (mvT hZ wd) hnf (mvT hZ wsel) (mvT hZ win) hy (backOf (W := W) hM hZ wc wi hf hl) qa qc hg hsize (Steps.refl _) hlen hstack hW hdg (fun _ _ => ⟨rfl, eT, by rw [hrc]; exact hcl, by rw [hrs]; exact hsl⟩)
  dsimp only [Pt.U, Pt.locs, Pt.cells, Pt.slots] at X1 l1 y1 z1 st hQ
  obtain ⟨rfl, rfl, hh⟩ := hQ
  subst l1 y1 z1
  rw [List.append_nil, hrc, hrs, Nat.add_zero, Nat.add_zero] at X1
  exact ⟨T1, X1, hh, fun t k => st.trans k⟩
/-- what a law that makes objects leaves: true, and nothing old written -/
def own_one (n0 : Nat) : Option Value → Heap → List Loc → Prop := fun v h L => v = some (.int 1) ∧ Fr n0 L
theorem own_callI {Z : State} {a0 : Array Value} {h : Heap} {rm : Room} {W : Nat} {own : String} {index : Nat} {y : MethodName} {bytes : ByteArray} {maxL : Nat} {argsL rest : List Value} {a : Addr}
    (X : Stand p l e R s m args below meth c T locs cells slots) (hx : p.tables.exec = Jvm.exec) (hZ : Z.Warmed39 s.vm) (hown : s.vm.findClass own = some m.cls) (hy1 : y.name = "<init>")
    (wl : (Jvm.Cond.methodLink own index y).before a0 Z = true) (win : (Jvm.Cond.instanceMethod y).before a0 Z = true) (wi : (Jvm.Cond.initialized y.cls).before a0 Z = true) (wc : (Jvm.Cond.code y bytes maxL none).before a0 Z = true)
    (hy : y.cls ≠ "java/lang/invoke/MethodHandle" ∧ y.cls ≠ "java/lang/invoke/VarHandle") (eT : T.heap = h)
    (hM : Pays l Z y bytes maxL none rm (.ref a :: argsL).toArray h (own_pure none h)) (hrc : rm.cells = 0) (hrs : rm.slots = 0) (hcl : cells ≤ R.cells) (hsl : slots ≤ R.slots) (hf : rm.frames + 1 ≤ R.frames) (hl : W + (maxL + 11) + rm.locals ≤ R.locals)
    (hg : g.method = m) (hsize : g.locals.size = c.maxLocals) (hlen : ∀ sig, parseMethodDescriptor y.desc = some sig → argsL.length = sig.parameters.length)
    (hstack : g.stack = argsL.reverse ++ .ref a :: rest) (hW : 2 * g.monitorRoom + (rest.map fun v => v.category).sum ≤ W) (hdg : decode c.code g.pc = .ok (.invokespecial index, 3)) :
    ∃ T', Stand p l e R s m args below meth c T' locs cells slots ∧ T'.heap = h ∧ ∀ t, Steps p.tables e below (T'.setTop { g with pc := g.pc + 3, stack := rest }) t → Steps p.tables e below (T.setTop g) t := by
  obtain ⟨v, vm₁, ⟨T1, L1, k1, n1⟩, hw1, X1, ⟨Lc, hQ, l1, y1, z1⟩, st⟩ := X.specialBack hx (y := y) hy1 hown (mvT hZ wl) (mvT hZ win) (mvT hZ wc) hy (backOf (W := W) hM hZ wc wi hf hl) hg hsize (Steps.refl _) hlen hstack hW hdg (fun _ _ => ⟨rfl, eT, by rw [hrc]; exact hcl, by rw [hrs]; exact hsl⟩)
  dsimp only [Pt.U, Pt.locs, Pt.cells, Pt.slots] at X1 l1 y1 z1 st hQ
  obtain ⟨rfl, rfl, hh⟩ := hQ
  subst l1 y1 z1
  rw [List.append_nil, hrc, hrs, Nat.add_zero, Nat.add_zero] at X1
  exact ⟨T1, X1, hh, fun t k => st.trans k⟩
theorem own_eqi {args : Array Value} {first s : State} {o : Option Outcome} {idx : List Nat} {t : Term} {k : Int32} (h : (Jvm.Cond.eq t (Term.int k)).value args first o s idx = some true) : t.eval args first o idx s = some (.int k) := by
  obtain ⟨x, y, e1, e2, k1, k2⟩ := cmp_v (Or.inl h)
  rw [Term.int_eval] at e2
  cases e2
  obtain ⟨z, rfl⟩ := k2
  have h2 : (Jvm.Cond.eq t (Term.int k)).value args first o s idx = some (decide (z = k)) := by simp [Cond.value, e1, Term.int_eval]
  rw [gotT h2 h] at e1
  exact e1
theorem own_ord {args : Array Value} {s : State} {t : Term} {x : Addr} {C n : String} {k : Int32} (ev : t.eval args s none [] s = some (.ref x)) (h : (Jvm.Cond.eq (Term.field t C n "I") (Term.int k)).value args s none s [] = some true) : Fld s s.heap x C n "I" (.int k) :=
  Fld.start ((fld_at ev).symm.trans (own_eqi h))
theorem own_sta_keep {Z : State} {h h' : Heap} {C n d D : String} {v : Value} {a : Addr} (F : Sta Z h C n d v) (K : Keep h h' [a]) (E : Exa Z h a D) : Sta Z h' C n d v := by
  obtain ⟨cf, i, k, f, st, cell, h1, h2, h3, h4, h5, h6, h7⟩ := F
  refine ⟨cf, i, k, f, st, cell, h1, h2, h3, h4, K.2.1 st cell h5 (fun q => ?_), h6, h7⟩
  obtain ⟨cell', k', g1, -, -, g4, -⟩ := E
  cases List.mem_singleton.mp q
  rw [h5] at g1
  cases g1
  rw [h6] at g4
  cases g4
end OwnKit
theorem ef_cp (m : MethodId) (x0 : Int32) : entryFrame m #[(.int x0)] 1 = mkF m 0 #[.val (.int x0)] [] := by first | (simp [entryFrame, mkF, argsToLocals, Value.category]; done) | rfl
theorem pn_0 : plainName "com/example/ledgerwalk/ledgerwalk/ModeCoversPinLaw" = true := by first | (simp [plainName, overriddenIn]; done) | decide +kernel
theorem d_cp_0 : decode method_3_code 0 = .ok (.iload_n 0, 1) := by decide +kernel
theorem d_cp_1 : decode method_3_code 1 = .ok (.ifCond .ne 5, 3) := by decide +kernel
theorem d_cp_4 : decode method_3_code 4 = .ok (.iconst 1, 1) := by decide +kernel
theorem d_cp_5 : decode method_3_code 5 = .ok (.ireturn, 1) := by decide +kernel
theorem d_cp_6 : decode method_3_code 6 = .ok (.iload_n 0, 1) := by decide +kernel
theorem d_cp_7 : decode method_3_code 7 = .ok (.iconst 1, 1) := by decide +kernel
theorem d_cp_8 : decode method_3_code 8 = .ok (.if_icmp .ne 5, 3) := by decide +kernel
theorem d_cp_11 : decode method_3_code 11 = .ok (.iconst 3, 1) := by decide +kernel
theorem d_cp_12 : decode method_3_code 12 = .ok (.ireturn, 1) := by decide +kernel
theorem d_cp_13 : decode method_3_code 13 = .ok (.iload_n 0, 1) := by decide +kernel
theorem d_cp_14 : decode method_3_code 14 = .ok (.iconst 2, 1) := by decide +kernel
theorem d_cp_15 : decode method_3_code 15 = .ok (.if_icmp .ne 5, 3) := by decide +kernel
theorem d_cp_18 : decode method_3_code 18 = .ok (.iconst 4, 1) := by decide +kernel
theorem d_cp_19 : decode method_3_code 19 = .ok (.ireturn, 1) := by decide +kernel
theorem d_cp_20 : decode method_3_code 20 = .ok (.bipush 15, 2) := by decide +kernel
theorem d_cp_22 : decode method_3_code 22 = .ok (.ireturn, 1) := by decide +kernel
theorem ef_md (m : MethodId) (x0 : Int32) : entryFrame m #[(.int x0)] 1 = mkF m 0 #[.val (.int x0)] [] := by first | (simp [entryFrame, mkF, argsToLocals, Value.category]; done) | rfl
theorem d_md_0 : decode method_2_code 0 = .ok (.iload_n 0, 1) := by decide +kernel
theorem d_md_1 : decode method_2_code 1 = .ok (.ifCond .ne 7, 3) := by decide +kernel
theorem d_md_4 : decode method_2_code 4 = .ok (.getstatic 7, 3) := by decide +kernel
theorem d_md_7 : decode method_2_code 7 = .ok (.areturn, 1) := by decide +kernel
theorem d_md_8 : decode method_2_code 8 = .ok (.iload_n 0, 1) := by decide +kernel
theorem d_md_9 : decode method_2_code 9 = .ok (.iconst 1, 1) := by decide +kernel
theorem d_md_10 : decode method_2_code 10 = .ok (.if_icmp .ne 7, 3) := by decide +kernel
theorem d_md_13 : decode method_2_code 13 = .ok (.getstatic 13, 3) := by decide +kernel
theorem d_md_16 : decode method_2_code 16 = .ok (.areturn, 1) := by decide +kernel
theorem d_md_17 : decode method_2_code 17 = .ok (.iload_n 0, 1) := by decide +kernel
theorem d_md_18 : decode method_2_code 18 = .ok (.iconst 2, 1) := by decide +kernel
theorem d_md_19 : decode method_2_code 19 = .ok (.if_icmp .ne 7, 3) := by decide +kernel
theorem d_md_22 : decode method_2_code 22 = .ok (.getstatic 16, 3) := by decide +kernel
theorem d_md_25 : decode method_2_code 25 = .ok (.areturn, 1) := by decide +kernel
theorem d_md_26 : decode method_2_code 26 = .ok (.getstatic 19, 3) := by decide +kernel
theorem d_md_29 : decode method_2_code 29 = .ok (.areturn, 1) := by decide +kernel
theorem ef_cv (m : MethodId) (x0 : Addr) (x1 : Addr) : entryFrame m #[(.ref x0), (.ref x1)] 2 = mkF m 0 #[.val (.ref x0), .val (.ref x1)] [] := by first | (simp [entryFrame, mkF, argsToLocals, Value.category]; done) | rfl
theorem pn_1 : plainName "com/example/ledgerwalk/ledgerwalk/LockTable$Mode" = true := by first | (simp [plainName, overriddenIn]; done) | decide +kernel
theorem d_cv_0 : decode prog_26_method_6_code 0 = .ok (.aload_n 0, 1) := by decide +kernel
theorem d_cv_1 : decode prog_26_method_6_code 1 = .ok (.aload_n 1, 1) := by decide +kernel
theorem d_cv_2 : decode prog_26_method_6_code 2 = .ok (.if_acmp .eq 24, 3) := by decide +kernel
theorem d_cv_26 : decode prog_26_method_6_code 26 = .ok (.iconst 1, 1) := by decide +kernel
theorem d_cv_27 : decode prog_26_method_6_code 27 = .ok (.goto 4, 3) := by decide +kernel
theorem d_cv_31 : decode prog_26_method_6_code 31 = .ok (.ireturn, 1) := by decide +kernel
theorem d_cv_5 : decode prog_26_method_6_code 5 = .ok (.aload_n 0, 1) := by decide +kernel
theorem d_cv_6 : decode prog_26_method_6_code 6 = .ok (.getstatic 13, 3) := by decide +kernel
theorem d_cv_9 : decode prog_26_method_6_code 9 = .ok (.if_acmp .eq 17, 3) := by decide +kernel
theorem d_cv_12 : decode prog_26_method_6_code 12 = .ok (.aload_n 0, 1) := by decide +kernel
theorem d_cv_13 : decode prog_26_method_6_code 13 = .ok (.getstatic 7, 3) := by decide +kernel
theorem d_cv_16 : decode prog_26_method_6_code 16 = .ok (.if_acmp .ne 14, 3) := by decide +kernel
theorem d_cv_19 : decode prog_26_method_6_code 19 = .ok (.aload_n 1, 1) := by decide +kernel
theorem d_cv_20 : decode prog_26_method_6_code 20 = .ok (.getstatic 3, 3) := by decide +kernel
theorem d_cv_23 : decode prog_26_method_6_code 23 = .ok (.if_acmp .ne 7, 3) := by decide +kernel
theorem d_cv_30 : decode prog_26_method_6_code 30 = .ok (.iconst 0, 1) := by decide +kernel
theorem ef_law (m : MethodId) (x0 : Int32) (x1 : Int32) : entryFrame m #[(.int x0), (.int x1)] maxLocals = mkF m 0 #[.val (.int x0), .val (.int x1), .unset, .unset, .unset] [] := by first | (simp [entryFrame, mkF, argsToLocals, Value.category, maxLocals]; done) | rfl
theorem pd_0 : parseMethodDescriptor "(I)I" = some ⟨[.int], some .int⟩ := by decide +kernel
theorem pd_1 : parseMethodDescriptor "(I)Lcom/example/ledgerwalk/ledgerwalk/LockTable$Mode;" = some ⟨[.int], some (.object "com/example/ledgerwalk/ledgerwalk/LockTable$Mode")⟩ := by decide +kernel
theorem pd_2 : parseMethodDescriptor "(Lcom/example/ledgerwalk/ledgerwalk/LockTable$Mode;)Z" = some ⟨[(.object "com/example/ledgerwalk/ledgerwalk/LockTable$Mode")], some .boolean⟩ := by decide +kernel
def own_caps (k : Int32) : Int32 := if k = (0 : Int32) then (1 : Int32) else if k = (1 : Int32) then (3 : Int32) else if k = (2 : Int32) then (4 : Int32) else (15 : Int32)
def own_mode (k : Int32) (a_sh a_up a_ie a_ex : Addr) : Addr := if k = (0 : Int32) then a_sh else if k = (1 : Int32) then a_up else if k = (2 : Int32) then a_ie else a_ex
def own_cov (x y : Addr) (a_sh a_up a_ie a_ex : Addr) : Int32 := if x = y then (1 : Int32) else if x = a_ex then (1 : Int32) else if x = a_up then (if y = a_sh then (1 : Int32) else (0 : Int32)) else (0 : Int32)
set_option maxRecDepth 65536 in
set_option maxHeartbeats 40000000 in
theorem rm_cp (l : Launch) (Z : State) (a0 : Array Value) (hw : ∀ d ∈ tables_1, d.before a0 Z = true) (k : Int32) (h0 : Heap)  :
    Pays l Z (⟨"com/example/ledgerwalk/ledgerwalk/ModeCoversPinLaw", "caps", "(I)I"⟩ : MethodName) method_3_code 1 (some .int) ({ frames := 0, cells := 0, slots := 0, locals := 0 } : Room) #[(.int k)] h0 (own_pure (some (.int (own_caps k))) h0) := by
  refine MetFree.of_bodySF (plainFor_of_name pn_0) hisR ?_
  intro p e s m args below meth c s₁ Bd hml0 hP hK
  obtain ⟨rfl, hZ, hh⟩ := hP
  have hx := Bd.exec
  have hby := Bd.bytes
  have hml : c.maxLocals = 1 := hml0
  have hown : s.vm.findClass "com/example/ledgerwalk/ledgerwalk/ModeCoversPinLaw" = some m.cls := findClass_of_methodNamed Bd.named
  have hnm := (name_of_methodNamed Bd.named Bd.method).1
  have hlk : meth.locks = false := BodyLoose.notSynchronized Bd
  have X0 : Stand p l e ({ frames := 0, cells := 0, slots := 0, locals := 0 } : Room) s m #[(.int k)] below meth c s₁ [] 0 0 := Stand.of_body Bd
  have e0 : s₁.heap = h0 := by rw [← hh, Bd.state]; rfl
  show Goes p e below s (own_pure (some (.int (own_caps k))) h0) ({ frames := 0, cells := 0, slots := 0, locals := 0 } : Room).cells ({ frames := 0, cells := 0, slots := 0, locals := 0 } : Room).slots s₁ (entryFrame m #[(.int k)] 1)
  rw [ef_cp m k]
  refine own_go (T' := s₁) (g' := (mkF m 1 #[.val (.int k)] [(.int k)])) (fun t_ K => XS.iloadN X0.here hx rfl (hb hby d_cp_0) rfl K) ?_
  by_cases c1 : k = (0 : Int32)
  · refine own_go (T' := s₁) (g' := (mkF m 4 #[.val (.int k)] [])) (fun t_ K => XS.ifNo X0.here hx rfl (hb hby d_cp_1) rfl ((if0 _ _).trans (teq c1).2) K) ?_
    refine own_go (T' := s₁) (g' := (mkF m 5 #[.val (.int k)] [(.int (1 : Int32))])) (fun t_ K => XS.iconst X0.here hx rfl (hb hby d_cp_4) K) ?_
    exact own_retI X0 hx Bd.returns hlk (hb hby d_cp_5) ⟨by rw [own_caps, if_pos c1], rfl, e0⟩ (by decide) (by decide)
  · refine own_go (T' := s₁) (g' := (mkF m 6 #[.val (.int k)] [])) (fun t_ K => XS.ifYes X0.here hx rfl (pc0 := 1) (pc' := 6) rfl (hb hby d_cp_1) rfl ((if0 _ _).trans (feq c1).2) (by decide) (by decide) K) ?_
    refine own_go (T' := s₁) (g' := (mkF m 7 #[.val (.int k)] [(.int k)])) (fun t_ K => XS.iloadN X0.here hx rfl (hb hby d_cp_6) rfl K) ?_
    refine own_go (T' := s₁) (g' := (mkF m 8 #[.val (.int k)] [(.int (1 : Int32)), (.int k)])) (fun t_ K => XS.iconst X0.here hx rfl (hb hby d_cp_7) K) ?_
    by_cases c8 : k = (1 : Int32)
    · refine own_go (T' := s₁) (g' := (mkF m 11 #[.val (.int k)] [])) (fun t_ K => XS.icmpNo X0.here hx rfl (hb hby d_cp_8) rfl (teq c8).2 K) ?_
      refine own_go (T' := s₁) (g' := (mkF m 12 #[.val (.int k)] [(.int (3 : Int32))])) (fun t_ K => XS.iconst X0.here hx rfl (hb hby d_cp_11) K) ?_
      exact own_retI X0 hx Bd.returns hlk (hb hby d_cp_12) ⟨by rw [own_caps, if_neg c1, if_pos c8], rfl, e0⟩ (by decide) (by decide)
    · refine own_go (T' := s₁) (g' := (mkF m 13 #[.val (.int k)] [])) (fun t_ K => XS.icmpYes X0.here hx rfl (pc0 := 8) (pc' := 13) rfl (hb hby d_cp_8) rfl (feq c8).2 (by decide) (by decide) K) ?_
      refine own_go (T' := s₁) (g' := (mkF m 14 #[.val (.int k)] [(.int k)])) (fun t_ K => XS.iloadN X0.here hx rfl (hb hby d_cp_13) rfl K) ?_
      refine own_go (T' := s₁) (g' := (mkF m 15 #[.val (.int k)] [(.int (2 : Int32)), (.int k)])) (fun t_ K => XS.iconst X0.here hx rfl (hb hby d_cp_14) K) ?_
      by_cases c15 : k = (2 : Int32)
      · refine own_go (T' := s₁) (g' := (mkF m 18 #[.val (.int k)] [])) (fun t_ K => XS.icmpNo X0.here hx rfl (hb hby d_cp_15) rfl (teq c15).2 K) ?_
        refine own_go (T' := s₁) (g' := (mkF m 19 #[.val (.int k)] [(.int (4 : Int32))])) (fun t_ K => XS.iconst X0.here hx rfl (hb hby d_cp_18) K) ?_
        exact own_retI X0 hx Bd.returns hlk (hb hby d_cp_19) ⟨by rw [own_caps, if_neg c1, if_neg c8, if_pos c15], rfl, e0⟩ (by decide) (by decide)
      · refine own_go (T' := s₁) (g' := (mkF m 20 #[.val (.int k)] [])) (fun t_ K => XS.icmpYes X0.here hx rfl (pc0 := 15) (pc' := 20) rfl (hb hby d_cp_15) rfl (feq c15).2 (by decide) (by decide) K) ?_
        refine own_go (T' := s₁) (g' := (mkF m 22 #[.val (.int k)] [(.int (15 : Int32))])) (fun t_ K => XS.bipush X0.here hx rfl (hb hby d_cp_20) K) ?_
        exact own_retI X0 hx Bd.returns hlk (hb hby d_cp_22) ⟨by rw [own_caps, if_neg c1, if_neg c8, if_neg c15], rfl, e0⟩ (by decide) (by decide)
set_option maxRecDepth 65536 in
set_option maxHeartbeats 40000000 in
theorem rm_md (l : Launch) (Z : State) (a0 : Array Value) (hw : ∀ d ∈ tables_1, d.before a0 Z = true) (k : Int32) (a_sh a_up a_ie a_ex : Addr) (h0 : Heap) (S_sh : Sta Z h0 "com/example/ledgerwalk/ledgerwalk/LockTable$Mode" "SHARED" "Lcom/example/ledgerwalk/ledgerwalk/LockTable$Mode;" (.ref a_sh)) (S_up : Sta Z h0 "com/example/ledgerwalk/ledgerwalk/LockTable$Mode" "UPDATE" "Lcom/example/ledgerwalk/ledgerwalk/LockTable$Mode;" (.ref a_up)) (S_ie : Sta Z h0 "com/example/ledgerwalk/ledgerwalk/LockTable$Mode" "INTENTION_EXCLUSIVE" "Lcom/example/ledgerwalk/ledgerwalk/LockTable$Mode;" (.ref a_ie)) (S_ex : Sta Z h0 "com/example/ledgerwalk/ledgerwalk/LockTable$Mode" "EXCLUSIVE" "Lcom/example/ledgerwalk/ledgerwalk/LockTable$Mode;" (.ref a_ex)) :
    Pays l Z (⟨"com/example/ledgerwalk/ledgerwalk/ModeCoversPinLaw", "mode", "(I)Lcom/example/ledgerwalk/ledgerwalk/LockTable$Mode;"⟩ : MethodName) method_2_code 1 (some (.object "com/example/ledgerwalk/ledgerwalk/LockTable$Mode")) ({ frames := 0, cells := 0, slots := 0, locals := 0 } : Room) #[(.int k)] h0 (own_pure (some (.ref (own_mode k a_sh a_up a_ie a_ex))) h0) := by
  refine MetFree.of_bodySF (plainFor_of_name pn_0) hisR ?_
  intro p e s m args below meth c s₁ Bd hml0 hP hK
  obtain ⟨rfl, hZ, hh⟩ := hP
  have hx := Bd.exec
  have hby := Bd.bytes
  have hml : c.maxLocals = 1 := hml0
  have hown : s.vm.findClass "com/example/ledgerwalk/ledgerwalk/ModeCoversPinLaw" = some m.cls := findClass_of_methodNamed Bd.named
  have hnm := (name_of_methodNamed Bd.named Bd.method).1
  have hlk : meth.locks = false := BodyLoose.notSynchronized Bd
  have X0 : Stand p l e ({ frames := 0, cells := 0, slots := 0, locals := 0 } : Room) s m #[(.int k)] below meth c s₁ [] 0 0 := Stand.of_body Bd
  have e0 : s₁.heap = h0 := by rw [← hh, Bd.state]; rfl
  show Goes p e below s (own_pure (some (.ref (own_mode k a_sh a_up a_ie a_ex))) h0) ({ frames := 0, cells := 0, slots := 0, locals := 0 } : Room).cells ({ frames := 0, cells := 0, slots := 0, locals := 0 } : Room).slots s₁ (entryFrame m #[(.int k)] 1)
  rw [ef_md m k]
  refine own_go (T' := s₁) (g' := (mkF m 1 #[.val (.int k)] [(.int k)])) (fun t_ K => XS.iloadN X0.here hx rfl (hb hby d_md_0) rfl K) ?_
  by_cases c1 : k = (0 : Int32)
  · refine own_go (T' := s₁) (g' := (mkF m 4 #[.val (.int k)] [])) (fun t_ K => XS.ifNo X0.here hx rfl (hb hby d_md_1) rfl ((if0 _ _).trans (teq c1).2) K) ?_
    obtain ⟨T1, X1, e1, st1⟩ := getS2 X0 hx hZ hown (host := "") (Or.inl (hw _ (List.mem_of_getElem? (i := 7) rfl))) Via.refl e0 S_sh (g := (mkF m 4 #[.val (.int k)] [])) rfl (hb hby d_md_4)
    refine own_go (T' := T1) (g' := (mkF m 7 #[.val (.int k)] [(.ref a_sh)])) (fun t_ K => st1 _ K) ?_
    exact own_retA X1 hx Bd.returns rfl hlk rfl (hb hby d_md_7) ⟨by rw [own_mode, if_pos c1], rfl, e1⟩ (by decide) (by decide)
  · refine own_go (T' := s₁) (g' := (mkF m 8 #[.val (.int k)] [])) (fun t_ K => XS.ifYes X0.here hx rfl (pc0 := 1) (pc' := 8) rfl (hb hby d_md_1) rfl ((if0 _ _).trans (feq c1).2) (by decide) (by decide) K) ?_
    refine own_go (T' := s₁) (g' := (mkF m 9 #[.val (.int k)] [(.int k)])) (fun t_ K => XS.iloadN X0.here hx rfl (hb hby d_md_8) rfl K) ?_
    refine own_go (T' := s₁) (g' := (mkF m 10 #[.val (.int k)] [(.int (1 : Int32)), (.int k)])) (fun t_ K => XS.iconst X0.here hx rfl (hb hby d_md_9) K) ?_
    by_cases c10 : k = (1 : Int32)
    · refine own_go (T' := s₁) (g' := (mkF m 13 #[.val (.int k)] [])) (fun t_ K => XS.icmpNo X0.here hx rfl (hb hby d_md_10) rfl (teq c10).2 K) ?_
      obtain ⟨T2, X2, e2, st2⟩ := getS2 X0 hx hZ hown (host := "") (Or.inl (hw _ (List.mem_of_getElem? (i := 22) rfl))) Via.refl e0 S_up (g := (mkF m 13 #[.val (.int k)] [])) rfl (hb hby d_md_13)
      refine own_go (T' := T2) (g' := (mkF m 16 #[.val (.int k)] [(.ref a_up)])) (fun t_ K => st2 _ K) ?_
      exact own_retA X2 hx Bd.returns rfl hlk rfl (hb hby d_md_16) ⟨by rw [own_mode, if_neg c1, if_pos c10], rfl, e2⟩ (by decide) (by decide)
    · refine own_go (T' := s₁) (g' := (mkF m 17 #[.val (.int k)] [])) (fun t_ K => XS.icmpYes X0.here hx rfl (pc0 := 10) (pc' := 17) rfl (hb hby d_md_10) rfl (feq c10).2 (by decide) (by decide) K) ?_
      refine own_go (T' := s₁) (g' := (mkF m 18 #[.val (.int k)] [(.int k)])) (fun t_ K => XS.iloadN X0.here hx rfl (hb hby d_md_17) rfl K) ?_
      refine own_go (T' := s₁) (g' := (mkF m 19 #[.val (.int k)] [(.int (2 : Int32)), (.int k)])) (fun t_ K => XS.iconst X0.here hx rfl (hb hby d_md_18) K) ?_
      by_cases c19 : k = (2 : Int32)
      · refine own_go (T' := s₁) (g' := (mkF m 22 #[.val (.int k)] [])) (fun t_ K => XS.icmpNo X0.here hx rfl (hb hby d_md_19) rfl (teq c19).2 K) ?_
        obtain ⟨T3, X3, e3, st3⟩ := getS2 X0 hx hZ hown (host := "") (Or.inl (hw _ (List.mem_of_getElem? (i := 20) rfl))) Via.refl e0 S_ie (g := (mkF m 22 #[.val (.int k)] [])) rfl (hb hby d_md_22)
        refine own_go (T' := T3) (g' := (mkF m 25 #[.val (.int k)] [(.ref a_ie)])) (fun t_ K => st3 _ K) ?_
        exact own_retA X3 hx Bd.returns rfl hlk rfl (hb hby d_md_25) ⟨by rw [own_mode, if_neg c1, if_neg c10, if_pos c19], rfl, e3⟩ (by decide) (by decide)
      · refine own_go (T' := s₁) (g' := (mkF m 26 #[.val (.int k)] [])) (fun t_ K => XS.icmpYes X0.here hx rfl (pc0 := 19) (pc' := 26) rfl (hb hby d_md_19) rfl (feq c19).2 (by decide) (by decide) K) ?_
        obtain ⟨T4, X4, e4, st4⟩ := getS2 X0 hx hZ hown (host := "") (Or.inl (hw _ (List.mem_of_getElem? (i := 10) rfl))) Via.refl e0 S_ex (g := (mkF m 26 #[.val (.int k)] [])) rfl (hb hby d_md_26)
        refine own_go (T' := T4) (g' := (mkF m 29 #[.val (.int k)] [(.ref a_ex)])) (fun t_ K => st4 _ K) ?_
        exact own_retA X4 hx Bd.returns rfl hlk rfl (hb hby d_md_29) ⟨by rw [own_mode, if_neg c1, if_neg c10, if_neg c19], rfl, e4⟩ (by decide) (by decide)
set_option maxRecDepth 65536 in
set_option maxHeartbeats 40000000 in
theorem rm_cv (l : Launch) (Z : State) (a0 : Array Value) (hw : ∀ d ∈ tables_1, d.before a0 Z = true) (u v : Addr) (a_sh a_up a_ie a_ex : Addr) (h0 : Heap) (S_sh : Sta Z h0 "com/example/ledgerwalk/ledgerwalk/LockTable$Mode" "SHARED" "Lcom/example/ledgerwalk/ledgerwalk/LockTable$Mode;" (.ref a_sh)) (S_up : Sta Z h0 "com/example/ledgerwalk/ledgerwalk/LockTable$Mode" "UPDATE" "Lcom/example/ledgerwalk/ledgerwalk/LockTable$Mode;" (.ref a_up)) (S_ie : Sta Z h0 "com/example/ledgerwalk/ledgerwalk/LockTable$Mode" "INTENTION_EXCLUSIVE" "Lcom/example/ledgerwalk/ledgerwalk/LockTable$Mode;" (.ref a_ie)) (S_ex : Sta Z h0 "com/example/ledgerwalk/ledgerwalk/LockTable$Mode" "EXCLUSIVE" "Lcom/example/ledgerwalk/ledgerwalk/LockTable$Mode;" (.ref a_ex)) :
    Pays l Z (⟨"com/example/ledgerwalk/ledgerwalk/LockTable$Mode", "covers", "(Lcom/example/ledgerwalk/ledgerwalk/LockTable$Mode;)Z"⟩ : MethodName) prog_26_method_6_code 2 (some .boolean) ({ frames := 0, cells := 0, slots := 0, locals := 0 } : Room) #[(.ref u), (.ref v)] h0 (own_pure (some (.int (own_cov u v a_sh a_up a_ie a_ex))) h0) := by
  refine MetFree.of_bodySF (plainFor_of_name pn_1) hisR ?_
  intro p e s m args below meth c s₁ Bd hml0 hP hK
  obtain ⟨rfl, hZ, hh⟩ := hP
  have hx := Bd.exec
  have hby := Bd.bytes
  have hml : c.maxLocals = 2 := hml0
  have hown : s.vm.findClass "com/example/ledgerwalk/ledgerwalk/LockTable$Mode" = some m.cls := findClass_of_methodNamed Bd.named
  have hnm := (name_of_methodNamed Bd.named Bd.method).1
  have hlk : meth.locks = false := BodyLoose.notSynchronized Bd
  have X0 : Stand p l e ({ frames := 0, cells := 0, slots := 0, locals := 0 } : Room) s m #[(.ref u), (.ref v)] below meth c s₁ [] 0 0 := Stand.of_body Bd
  have e0 : s₁.heap = h0 := by rw [← hh, Bd.state]; rfl
  show Goes p e below s (own_pure (some (.int (own_cov u v a_sh a_up a_ie a_ex))) h0) ({ frames := 0, cells := 0, slots := 0, locals := 0 } : Room).cells ({ frames := 0, cells := 0, slots := 0, locals := 0 } : Room).slots s₁ (entryFrame m #[(.ref u), (.ref v)] 2)
  rw [ef_cv m u v]
  refine own_go (T' := s₁) (g' := (mkF m 1 #[.val (.ref u), .val (.ref v)] [(.ref u)])) (fun t_ K => XS.aloadN X0.here hx rfl (hb hby d_cv_0) rfl rfl K) ?_
  refine own_go (T' := s₁) (g' := (mkF m 2 #[.val (.ref u), .val (.ref v)] [(.ref v), (.ref u)])) (fun t_ K => XS.aloadN X0.here hx rfl (hb hby d_cv_1) rfl rfl K) ?_
  by_cases c2 : u = v
  · refine own_go (T' := s₁) (g' := (mkF m 26 #[.val (.ref u), .val (.ref v)] [])) (fun t_ K => Jvm.RoadKit.acmp (g := (mkF m 2 #[.val (.ref u), .val (.ref v)] [(.ref v), (.ref u)])) X0 hx rfl rfl rfl (pc0 := 2) (pc' := 26) (same := true) rfl (hb hby d_cv_2) rfl (decide_eq_true (congrArg Value.ref c2)) (by decide) (by decide) K) ?_
    refine own_go (T' := s₁) (g' := (mkF m 27 #[.val (.ref u), .val (.ref v)] [(.int (1 : Int32))])) (fun t_ K => XS.iconst X0.here hx rfl (hb hby d_cv_26) K) ?_
    refine own_go (T' := s₁) (g' := (mkF m 31 #[.val (.ref u), .val (.ref v)] [(.int (1 : Int32))])) (fun t_ K => XS.goto X0.here hx rfl (pc0 := 27) (pc' := 31) rfl (hb hby d_cv_27) (by decide) (by decide) K) ?_
    exact own_retZ X0 hx Bd.returns hlk (Or.inr rfl) (hb hby d_cv_31) ⟨by rw [own_cov, if_pos c2], rfl, e0⟩ (by decide) (by decide)
  · refine own_go (T' := s₁) (g' := (mkF m 5 #[.val (.ref u), .val (.ref v)] [])) (fun t_ K => Jvm.RoadKit.acmp (g := (mkF m 2 #[.val (.ref u), .val (.ref v)] [(.ref v), (.ref u)])) X0 hx rfl rfl rfl (pc0 := 2) (pc' := 5) (same := false) rfl (hb hby d_cv_2) rfl (decide_eq_false (fun q => c2 (Value.ref.inj q))) (by decide) (by decide) K) ?_
    refine own_go (T' := s₁) (g' := (mkF m 6 #[.val (.ref u), .val (.ref v)] [(.ref u)])) (fun t_ K => XS.aloadN X0.here hx rfl (hb hby d_cv_5) rfl rfl K) ?_
    obtain ⟨T1, X1, e1, st1⟩ := getS2 X0 hx hZ hown (host := "") (Or.inl (hw _ (List.mem_of_getElem? (i := 17) rfl))) Via.refl e0 S_ex (g := (mkF m 6 #[.val (.ref u), .val (.ref v)] [(.ref u)])) rfl (hb hby d_cv_6)
    refine own_go (T' := T1) (g' := (mkF m 9 #[.val (.ref u), .val (.ref v)] [(.ref a_ex), (.ref u)])) (fun t_ K => st1 _ K) ?_
    by_cases c9 : u = a_ex
    · refine own_go (T' := T1) (g' := (mkF m 26 #[.val (.ref u), .val (.ref v)] [])) (fun t_ K => Jvm.RoadKit.acmp (g := (mkF m 9 #[.val (.ref u), .val (.ref v)] [(.ref a_ex), (.ref u)])) X1 hx rfl rfl rfl (pc0 := 9) (pc' := 26) (same := true) rfl (hb hby d_cv_9) rfl (decide_eq_true (congrArg Value.ref c9)) (by decide) (by decide) K) ?_
      refine own_go (T' := T1) (g' := (mkF m 27 #[.val (.ref u), .val (.ref v)] [(.int (1 : Int32))])) (fun t_ K => XS.iconst X1.here hx rfl (hb hby d_cv_26) K) ?_
      refine own_go (T' := T1) (g' := (mkF m 31 #[.val (.ref u), .val (.ref v)] [(.int (1 : Int32))])) (fun t_ K => XS.goto X1.here hx rfl (pc0 := 27) (pc' := 31) rfl (hb hby d_cv_27) (by decide) (by decide) K) ?_
      exact own_retZ X1 hx Bd.returns hlk (Or.inr rfl) (hb hby d_cv_31) ⟨by rw [own_cov, if_neg c2, if_pos c9], rfl, e1⟩ (by decide) (by decide)
    · refine own_go (T' := T1) (g' := (mkF m 12 #[.val (.ref u), .val (.ref v)] [])) (fun t_ K => Jvm.RoadKit.acmp (g := (mkF m 9 #[.val (.ref u), .val (.ref v)] [(.ref a_ex), (.ref u)])) X1 hx rfl rfl rfl (pc0 := 9) (pc' := 12) (same := false) rfl (hb hby d_cv_9) rfl (decide_eq_false (fun q => c9 (Value.ref.inj q))) (by decide) (by decide) K) ?_
      refine own_go (T' := T1) (g' := (mkF m 13 #[.val (.ref u), .val (.ref v)] [(.ref u)])) (fun t_ K => XS.aloadN X1.here hx rfl (hb hby d_cv_12) rfl rfl K) ?_
      obtain ⟨T2, X2, e2, st2⟩ := getS2 X1 hx hZ hown (host := "") (Or.inl (hw _ (List.mem_of_getElem? (i := 18) rfl))) Via.refl e1 S_up (g := (mkF m 13 #[.val (.ref u), .val (.ref v)] [(.ref u)])) rfl (hb hby d_cv_13)
      refine own_go (T' := T2) (g' := (mkF m 16 #[.val (.ref u), .val (.ref v)] [(.ref a_up), (.ref u)])) (fun t_ K => st2 _ K) ?_
      by_cases c16 : u = a_up
      · refine own_go (T' := T2) (g' := (mkF m 19 #[.val (.ref u), .val (.ref v)] [])) (fun t_ K => Jvm.RoadKit.acmp (g := (mkF m 16 #[.val (.ref u), .val (.ref v)] [(.ref a_up), (.ref u)])) X2 hx rfl rfl rfl (pc0 := 16) (pc' := 19) (same := true) rfl (hb hby d_cv_16) rfl (decide_eq_true (congrArg Value.ref c16)) (by decide) (by decide) K) ?_
        refine own_go (T' := T2) (g' := (mkF m 20 #[.val (.ref u), .val (.ref v)] [(.ref v)])) (fun t_ K => XS.aloadN X2.here hx rfl (hb hby d_cv_19) rfl rfl K) ?_
        obtain ⟨T3, X3, e3, st3⟩ := getS2 X2 hx hZ hown (host := "") (Or.inl (hw _ (List.mem_of_getElem? (i := 23) rfl))) Via.refl e2 S_sh (g := (mkF m 20 #[.val (.ref u), .val (.ref v)] [(.ref v)])) rfl (hb hby d_cv_20)
        refine own_go (T' := T3) (g' := (mkF m 23 #[.val (.ref u), .val (.ref v)] [(.ref a_sh), (.ref v)])) (fun t_ K => st3 _ K) ?_
        by_cases c23 : v = a_sh
        · refine own_go (T' := T3) (g' := (mkF m 26 #[.val (.ref u), .val (.ref v)] [])) (fun t_ K => Jvm.RoadKit.acmp (g := (mkF m 23 #[.val (.ref u), .val (.ref v)] [(.ref a_sh), (.ref v)])) X3 hx rfl rfl rfl (pc0 := 23) (pc' := 26) (same := true) rfl (hb hby d_cv_23) rfl (decide_eq_true (congrArg Value.ref c23)) (by decide) (by decide) K) ?_
          refine own_go (T' := T3) (g' := (mkF m 27 #[.val (.ref u), .val (.ref v)] [(.int (1 : Int32))])) (fun t_ K => XS.iconst X3.here hx rfl (hb hby d_cv_26) K) ?_
          refine own_go (T' := T3) (g' := (mkF m 31 #[.val (.ref u), .val (.ref v)] [(.int (1 : Int32))])) (fun t_ K => XS.goto X3.here hx rfl (pc0 := 27) (pc' := 31) rfl (hb hby d_cv_27) (by decide) (by decide) K) ?_
          exact own_retZ X3 hx Bd.returns hlk (Or.inr rfl) (hb hby d_cv_31) ⟨by rw [own_cov, if_neg c2, if_neg c9, if_pos c16, if_pos c23], rfl, e3⟩ (by decide) (by decide)
        · refine own_go (T' := T3) (g' := (mkF m 30 #[.val (.ref u), .val (.ref v)] [])) (fun t_ K => Jvm.RoadKit.acmp (g := (mkF m 23 #[.val (.ref u), .val (.ref v)] [(.ref a_sh), (.ref v)])) X3 hx rfl rfl rfl (pc0 := 23) (pc' := 30) (same := false) rfl (hb hby d_cv_23) rfl (decide_eq_false (fun q => c23 (Value.ref.inj q))) (by decide) (by decide) K) ?_
          refine own_go (T' := T3) (g' := (mkF m 31 #[.val (.ref u), .val (.ref v)] [(.int (0 : Int32))])) (fun t_ K => XS.iconst X3.here hx rfl (hb hby d_cv_30) K) ?_
          exact own_retZ X3 hx Bd.returns hlk (Or.inl rfl) (hb hby d_cv_31) ⟨by rw [own_cov, if_neg c2, if_neg c9, if_pos c16, if_neg c23], rfl, e3⟩ (by decide) (by decide)
      · refine own_go (T' := T2) (g' := (mkF m 30 #[.val (.ref u), .val (.ref v)] [])) (fun t_ K => Jvm.RoadKit.acmp (g := (mkF m 16 #[.val (.ref u), .val (.ref v)] [(.ref a_up), (.ref u)])) X2 hx rfl rfl rfl (pc0 := 16) (pc' := 30) (same := false) rfl (hb hby d_cv_16) rfl (decide_eq_false (fun q => c16 (Value.ref.inj q))) (by decide) (by decide) K) ?_
        refine own_go (T' := T2) (g' := (mkF m 31 #[.val (.ref u), .val (.ref v)] [(.int (0 : Int32))])) (fun t_ K => XS.iconst X2.here hx rfl (hb hby d_cv_30) K) ?_
        exact own_retZ X2 hx Bd.returns hlk (Or.inl rfl) (hb hby d_cv_31) ⟨by rw [own_cov, if_neg c2, if_neg c9, if_neg c16], rfl, e2⟩ (by decide) (by decide)
theorem own_or4 (x : Int32) : (x &&& (3 : Int32)) = 0 ∨ (x &&& (3 : Int32)) = 1 ∨ (x &&& (3 : Int32)) = 2 ∨ (x &&& (3 : Int32)) = 3 := by
  have e : (x &&& (3 : Int32)).toInt = x.toInt % 2 ^ 2 := Jvm.Kit.i32_mask x 3 (k := 2) (by decide) (by decide)
  have h : (x &&& (3 : Int32)).toInt = 0 ∨ (x &&& (3 : Int32)).toInt = 1 ∨ (x &&& (3 : Int32)).toInt = 2 ∨ (x &&& (3 : Int32)).toInt = 3 := by omega
  rcases h with h | h | h | h
  · exact Or.inl (Int32.toInt_inj.mp (by rw [h]; decide))
  · exact Or.inr (Or.inl (Int32.toInt_inj.mp (by rw [h]; decide)))
  · exact Or.inr (Or.inr (Or.inl (Int32.toInt_inj.mp (by rw [h]; decide))))
  · exact Or.inr (Or.inr (Or.inr (Int32.toInt_inj.mp (by rw [h]; decide))))
theorem own_m0 (a_sh a_up a_ie a_ex : Addr) : own_mode 0 a_sh a_up a_ie a_ex = a_sh := rfl
theorem own_m1 (a_sh a_up a_ie a_ex : Addr) : own_mode 1 a_sh a_up a_ie a_ex = a_up := rfl
theorem own_m2 (a_sh a_up a_ie a_ex : Addr) : own_mode 2 a_sh a_up a_ie a_ex = a_ie := rfl
theorem own_m3 (a_sh a_up a_ie a_ex : Addr) : own_mode 3 a_sh a_up a_ie a_ex = a_ex := rfl
theorem own_key (a b : Int32) (a_sh a_up a_ie a_ex : Addr) (n_sh_up : a_sh ≠ a_up) (n_sh_ie : a_sh ≠ a_ie) (n_sh_ex : a_sh ≠ a_ex) (n_up_ie : a_up ≠ a_ie) (n_up_ex : a_up ≠ a_ex) (n_ie_ex : a_ie ≠ a_ex) : own_cov (own_mode (a &&& (3 : Int32)) a_sh a_up a_ie a_ex) (own_mode (b &&& (3 : Int32)) a_sh a_up a_ie a_ex) a_sh a_up a_ie a_ex = if (own_caps (b &&& (3 : Int32)) &&& (own_caps (a &&& (3 : Int32)) ^^^ (-1 : Int32))) = (0 : Int32) then (1 : Int32) else (0 : Int32) := by
  rcases own_or4 a with q | q | q | q <;> rcases own_or4 b with r | r | r | r <;> rw [q, r] <;> simp only [own_m0, own_m1, own_m2, own_m3, own_cov, if_true, n_sh_up, n_sh_ie, n_sh_ex, n_up_ie, n_up_ex, n_ie_ex, n_sh_up.symm, n_sh_ie.symm, n_sh_ex.symm, n_up_ie.symm, n_up_ex.symm, n_ie_ex.symm, if_false] <;> decide
theorem own_exa {Z : State} {h : Heap} {k : Int32} {a_sh a_up a_ie a_ex : Addr} {C : String} (e1 : Exa Z h a_sh C) (e2 : Exa Z h a_up C) (e3 : Exa Z h a_ie C) (e4 : Exa Z h a_ex C) : Exa Z h (own_mode k a_sh a_up a_ie a_ex) C := by
  rw [own_mode]
  split
  · exact e1
  · split
    · exact e2
    · split
      · exact e3
      · exact e4
set_option maxRecDepth 65536 in
set_option maxHeartbeats 40000000 in
theorem rm_law (l : Launch) (Z : State) (a0 : Array Value) (hw : ∀ d ∈ tables_1, d.before a0 Z = true) (ws : List Jvm.Cond) (xa xb : Int32) (a_sh a_up a_ie a_ex : Addr) (h0 : Heap) (S_sh : Sta Z h0 "com/example/ledgerwalk/ledgerwalk/LockTable$Mode" "SHARED" "Lcom/example/ledgerwalk/ledgerwalk/LockTable$Mode;" (.ref a_sh)) (S_up : Sta Z h0 "com/example/ledgerwalk/ledgerwalk/LockTable$Mode" "UPDATE" "Lcom/example/ledgerwalk/ledgerwalk/LockTable$Mode;" (.ref a_up)) (S_ie : Sta Z h0 "com/example/ledgerwalk/ledgerwalk/LockTable$Mode" "INTENTION_EXCLUSIVE" "Lcom/example/ledgerwalk/ledgerwalk/LockTable$Mode;" (.ref a_ie)) (S_ex : Sta Z h0 "com/example/ledgerwalk/ledgerwalk/LockTable$Mode" "EXCLUSIVE" "Lcom/example/ledgerwalk/ledgerwalk/LockTable$Mode;" (.ref a_ex)) (E_sh : Exa Z h0 a_sh "com/example/ledgerwalk/ledgerwalk/LockTable$Mode") (E_up : Exa Z h0 a_up "com/example/ledgerwalk/ledgerwalk/LockTable$Mode") (E_ie : Exa Z h0 a_ie "com/example/ledgerwalk/ledgerwalk/LockTable$Mode") (E_ex : Exa Z h0 a_ex "com/example/ledgerwalk/ledgerwalk/LockTable$Mode") (n_sh_up : a_sh ≠ a_up) (n_sh_ie : a_sh ≠ a_ie) (n_sh_ex : a_sh ≠ a_ex) (n_up_ie : a_up ≠ a_ie) (n_up_ex : a_up ≠ a_ex) (n_ie_ex : a_ie ≠ a_ex) :
    MetFree l x (head1 (Jvm.Cond.code x code maxLocals ret :: ws) room_1) (fun a U => a = #[(.int xa), (.int xb)] ∧ Z.Warmed39 U.vm ∧ U.heap = h0) (fun _ _ _ _ _ => True) (fun _ U o U' => ∃ v L, o = .returned v ∧ (own_pure (some (.int 1)) h0) v U'.heap L ∧ FrameEnd U o U' L 0 0) := by
  refine MetFree.of_bodySF (plainFor_of_name pn_0) hisR ?_
  intro p e s m args below meth c s₁ Bd hml0 hP hK
  obtain ⟨rfl, hZ, hh⟩ := hP
  have hx := Bd.exec
  have hby := Bd.bytes
  have hml : c.maxLocals = 5 := hml0
  have hown : s.vm.findClass "com/example/ledgerwalk/ledgerwalk/ModeCoversPinLaw" = some m.cls := findClass_of_methodNamed Bd.named
  have hnm := (name_of_methodNamed Bd.named Bd.method).1
  have hlk : meth.locks = false := BodyLoose.notSynchronized Bd
  have X0 : Stand p l e room_1 s m #[(.int xa), (.int xb)] below meth c s₁ [] 0 0 := Stand.of_body Bd
  have e0 : s₁.heap = h0 := by rw [← hh, Bd.state]; rfl
  show Goes p e below s (own_pure (some (.int 1)) h0) 0 0 s₁ (entryFrame m #[(.int xa), (.int xb)] maxLocals)
  rw [ef_law m xa xb]
  refine own_go (T' := s₁) (g' := (mkF m 1 #[.val (.int xa), .val (.int xb), .unset, .unset, .unset] [(.int xa)])) (fun t_ K => XS.iloadN X0.here hx rfl (hb hby at_0) rfl K) ?_
  refine own_go (T' := s₁) (g' := (mkF m 2 #[.val (.int xa), .val (.int xb), .unset, .unset, .unset] [(.int (3 : Int32)), (.int xa)])) (fun t_ K => XS.iconst X0.here hx rfl (hb hby at_1) K) ?_
  refine own_go (T' := s₁) (g' := (mkF m 3 #[.val (.int xa), .val (.int xb), .unset, .unset, .unset] [(.int (xa &&& (3 : Int32)))])) (fun t_ K => XS.iand X0.here hx rfl (hb hby at_2) rfl K) ?_
  refine own_go (T' := s₁) (g' := (mkF m 4 #[.val (.int xa), .val (.int xb), .val (.int (xa &&& (3 : Int32))), .unset, .unset] [])) (fun t_ K => XS.istoreN X0.here hx rfl (hb hby at_3) rfl (l' := #[.val (.int xa), .val (.int xb), .val (.int (xa &&& (3 : Int32))), .unset, .unset]) rfl K) ?_
  refine own_go (T' := s₁) (g' := (mkF m 5 #[.val (.int xa), .val (.int xb), .val (.int (xa &&& (3 : Int32))), .unset, .unset] [(.int xb)])) (fun t_ K => XS.iloadN X0.here hx rfl (hb hby at_4) rfl K) ?_
  refine own_go (T' := s₁) (g' := (mkF m 6 #[.val (.int xa), .val (.int xb), .val (.int (xa &&& (3 : Int32))), .unset, .unset] [(.int (3 : Int32)), (.int xb)])) (fun t_ K => XS.iconst X0.here hx rfl (hb hby at_5) K) ?_
  refine own_go (T' := s₁) (g' := (mkF m 7 #[.val (.int xa), .val (.int xb), .val (.int (xa &&& (3 : Int32))), .unset, .unset] [(.int (xb &&& (3 : Int32)))])) (fun t_ K => XS.iand X0.here hx rfl (hb hby at_6) rfl K) ?_
  refine own_go (T' := s₁) (g' := (mkF m 8 #[.val (.int xa), .val (.int xb), .val (.int (xa &&& (3 : Int32))), .val (.int (xb &&& (3 : Int32))), .unset] [])) (fun t_ K => XS.istoreN X0.here hx rfl (hb hby at_7) rfl (l' := #[.val (.int xa), .val (.int xb), .val (.int (xa &&& (3 : Int32))), .val (.int (xb &&& (3 : Int32))), .unset]) rfl K) ?_
  refine own_go (T' := s₁) (g' := (mkF m 9 #[.val (.int xa), .val (.int xb), .val (.int (xa &&& (3 : Int32))), .val (.int (xb &&& (3 : Int32))), .unset] [(.int (xb &&& (3 : Int32)))])) (fun t_ K => XS.iloadN X0.here hx rfl (hb hby at_8) rfl K) ?_
  obtain ⟨T1, X1, e1, st1⟩ := own_callS (W := 0) (rm := { frames := 0, cells := 0, slots := 0, locals := 0 }) X0 hx hZ hown (hw _ (List.mem_of_getElem? (i := 0) rfl)) (hw _ (List.mem_of_getElem? (i := 1) rfl)) (hw _ (List.mem_of_getElem? (i := 2) rfl)) (hw _ (List.mem_of_getElem? (i := 3) rfl)) (by decide) e0 (argsL := [(.int (xb &&& (3 : Int32)))]) (rest := []) (r := some (.int (own_caps (xb &&& (3 : Int32))))) (rm_cp l Z a0 hw (xb &&& (3 : Int32)) h0) rfl rfl (by decide) (by decide) (by decide) (by decide) (g := (mkF m 9 #[.val (.int xa), .val (.int xb), .val (.int (xa &&& (3 : Int32))), .val (.int (xb &&& (3 : Int32))), .unset] [(.int (xb &&& (3 : Int32)))])) rfl (by rw [hml]; rfl) (lenOf pd_0 rfl) rfl (by show 2 * 0 + _ ≤ _; exact Nat.le_of_eq rfl) (hb hby at_9)
  refine own_go (T' := T1) (g' := (mkF m 12 #[.val (.int xa), .val (.int xb), .val (.int (xa &&& (3 : Int32))), .val (.int (xb &&& (3 : Int32))), .unset] [(.int (own_caps (xb &&& (3 : Int32))))])) (fun t_ K => st1 _ K) ?_
  refine own_go (T' := T1) (g' := (mkF m 13 #[.val (.int xa), .val (.int xb), .val (.int (xa &&& (3 : Int32))), .val (.int (xb &&& (3 : Int32))), .unset] [(.int (xa &&& (3 : Int32))), (.int (own_caps (xb &&& (3 : Int32))))])) (fun t_ K => XS.iloadN X1.here hx rfl (hb hby at_12) rfl K) ?_
  obtain ⟨T2, X2, e2, st2⟩ := own_callS (W := 1) (rm := { frames := 0, cells := 0, slots := 0, locals := 0 }) X1 hx hZ hown (hw _ (List.mem_of_getElem? (i := 0) rfl)) (hw _ (List.mem_of_getElem? (i := 1) rfl)) (hw _ (List.mem_of_getElem? (i := 2) rfl)) (hw _ (List.mem_of_getElem? (i := 3) rfl)) (by decide) e1 (argsL := [(.int (xa &&& (3 : Int32)))]) (rest := [(.int (own_caps (xb &&& (3 : Int32))))]) (r := some (.int (own_caps (xa &&& (3 : Int32))))) (rm_cp l Z a0 hw (xa &&& (3 : Int32)) h0) rfl rfl (by decide) (by decide) (by decide) (by decide) (g := (mkF m 13 #[.val (.int xa), .val (.int xb), .val (.int (xa &&& (3 : Int32))), .val (.int (xb &&& (3 : Int32))), .unset] [(.int (xa &&& (3 : Int32))), (.int (own_caps (xb &&& (3 : Int32))))])) rfl (by rw [hml]; rfl) (lenOf pd_0 rfl) rfl (by show 2 * 0 + _ ≤ _; exact Nat.le_of_eq rfl) (hb hby at_13)
  refine own_go (T' := T2) (g' := (mkF m 16 #[.val (.int xa), .val (.int xb), .val (.int (xa &&& (3 : Int32))), .val (.int (xb &&& (3 : Int32))), .unset] [(.int (own_caps (xa &&& (3 : Int32)))), (.int (own_caps (xb &&& (3 : Int32))))])) (fun t_ K => st2 _ K) ?_
  refine own_go (T' := T2) (g' := (mkF m 17 #[.val (.int xa), .val (.int xb), .val (.int (xa &&& (3 : Int32))), .val (.int (xb &&& (3 : Int32))), .unset] [(.int (-1 : Int32)), (.int (own_caps (xa &&& (3 : Int32)))), (.int (own_caps (xb &&& (3 : Int32))))])) (fun t_ K => XS.iconst X2.here hx rfl (hb hby at_16) K) ?_
  refine own_go (T' := T2) (g' := (mkF m 18 #[.val (.int xa), .val (.int xb), .val (.int (xa &&& (3 : Int32))), .val (.int (xb &&& (3 : Int32))), .unset] [(.int ((own_caps (xa &&& (3 : Int32))) ^^^ (-1 : Int32))), (.int (own_caps (xb &&& (3 : Int32))))])) (fun t_ K => XT.ixor X2.here hx rfl (hb hby at_17) rfl K) ?_
  refine own_go (T' := T2) (g' := (mkF m 19 #[.val (.int xa), .val (.int xb), .val (.int (xa &&& (3 : Int32))), .val (.int (xb &&& (3 : Int32))), .unset] [(.int ((own_caps (xb &&& (3 : Int32))) &&& ((own_caps (xa &&& (3 : Int32))) ^^^ (-1 : Int32))))])) (fun t_ K => XS.iand X2.here hx rfl (hb hby at_18) rfl K) ?_
  by_cases c19 : ((own_caps (xb &&& (3 : Int32))) &&& ((own_caps (xa &&& (3 : Int32))) ^^^ (-1 : Int32))) = (0 : Int32)
  · refine own_go (T' := T2) (g' := (mkF m 22 #[.val (.int xa), .val (.int xb), .val (.int (xa &&& (3 : Int32))), .val (.int (xb &&& (3 : Int32))), .unset] [])) (fun t_ K => XS.ifNo X2.here hx rfl (hb hby at_19) rfl ((if0 _ _).trans (teq c19).2) K) ?_
    refine own_go (T' := T2) (g' := (mkF m 23 #[.val (.int xa), .val (.int xb), .val (.int (xa &&& (3 : Int32))), .val (.int (xb &&& (3 : Int32))), .unset] [(.int (1 : Int32))])) (fun t_ K => XS.iconst X2.here hx rfl (hb hby at_22) K) ?_
    refine own_go (T' := T2) (g' := (mkF m 27 #[.val (.int xa), .val (.int xb), .val (.int (xa &&& (3 : Int32))), .val (.int (xb &&& (3 : Int32))), .unset] [(.int (1 : Int32))])) (fun t_ K => XS.goto X2.here hx rfl (pc0 := 23) (pc' := 27) rfl (hb hby at_23) (by decide) (by decide) K) ?_
    refine own_go (T' := T2) (g' := (mkF m 29 #[.val (.int xa), .val (.int xb), .val (.int (xa &&& (3 : Int32))), .val (.int (xb &&& (3 : Int32))), .val (.int (1 : Int32))] [])) (fun t_ K => XS.istore X2.here hx rfl (hb hby at_27) rfl (l' := #[.val (.int xa), .val (.int xb), .val (.int (xa &&& (3 : Int32))), .val (.int (xb &&& (3 : Int32))), .val (.int (1 : Int32))]) rfl K) ?_
    refine own_go (T' := T2) (g' := (mkF m 30 #[.val (.int xa), .val (.int xb), .val (.int (xa &&& (3 : Int32))), .val (.int (xb &&& (3 : Int32))), .val (.int (1 : Int32))] [(.int (xa &&& (3 : Int32)))])) (fun t_ K => XS.iloadN X2.here hx rfl (hb hby at_29) rfl K) ?_
    obtain ⟨T3, X3, e3, st3⟩ := own_callS (W := 0) (rm := { frames := 0, cells := 0, slots := 0, locals := 0 }) X2 hx hZ hown (hw _ (List.mem_of_getElem? (i := 4) rfl)) (hw _ (List.mem_of_getElem? (i := 5) rfl)) (hw _ (List.mem_of_getElem? (i := 2) rfl)) (hw _ (List.mem_of_getElem? (i := 6) rfl)) (by decide) e2 (argsL := [(.int (xa &&& (3 : Int32)))]) (rest := []) (r := some (.ref (own_mode (xa &&& (3 : Int32)) a_sh a_up a_ie a_ex))) (rm_md l Z a0 hw (xa &&& (3 : Int32)) a_sh a_up a_ie a_ex h0 S_sh S_up S_ie S_ex) rfl rfl (by decide) (by decide) (by decide) (by decide) (g := (mkF m 30 #[.val (.int xa), .val (.int xb), .val (.int (xa &&& (3 : Int32))), .val (.int (xb &&& (3 : Int32))), .val (.int (1 : Int32))] [(.int (xa &&& (3 : Int32)))])) rfl (by rw [hml]; rfl) (lenOf pd_1 rfl) rfl (by show 2 * 0 + _ ≤ _; exact Nat.le_of_eq rfl) (hb hby at_30)
    refine own_go (T' := T3) (g' := (mkF m 33 #[.val (.int xa), .val (.int xb), .val (.int (xa &&& (3 : Int32))), .val (.int (xb &&& (3 : Int32))), .val (.int (1 : Int32))] [(.ref (own_mode (xa &&& (3 : Int32)) a_sh a_up a_ie a_ex))])) (fun t_ K => st3 _ K) ?_
    refine own_go (T' := T3) (g' := (mkF m 34 #[.val (.int xa), .val (.int xb), .val (.int (xa &&& (3 : Int32))), .val (.int (xb &&& (3 : Int32))), .val (.int (1 : Int32))] [(.int (xb &&& (3 : Int32))), (.ref (own_mode (xa &&& (3 : Int32)) a_sh a_up a_ie a_ex))])) (fun t_ K => XS.iloadN X3.here hx rfl (hb hby at_33) rfl K) ?_
    obtain ⟨T4, X4, e4, st4⟩ := own_callS (W := 1) (rm := { frames := 0, cells := 0, slots := 0, locals := 0 }) X3 hx hZ hown (hw _ (List.mem_of_getElem? (i := 4) rfl)) (hw _ (List.mem_of_getElem? (i := 5) rfl)) (hw _ (List.mem_of_getElem? (i := 2) rfl)) (hw _ (List.mem_of_getElem? (i := 6) rfl)) (by decide) e3 (argsL := [(.int (xb &&& (3 : Int32)))]) (rest := [(.ref (own_mode (xa &&& (3 : Int32)) a_sh a_up a_ie a_ex))]) (r := some (.ref (own_mode (xb &&& (3 : Int32)) a_sh a_up a_ie a_ex))) (rm_md l Z a0 hw (xb &&& (3 : Int32)) a_sh a_up a_ie a_ex h0 S_sh S_up S_ie S_ex) rfl rfl (by decide) (by decide) (by decide) (by decide) (g := (mkF m 34 #[.val (.int xa), .val (.int xb), .val (.int (xa &&& (3 : Int32))), .val (.int (xb &&& (3 : Int32))), .val (.int (1 : Int32))] [(.int (xb &&& (3 : Int32))), (.ref (own_mode (xa &&& (3 : Int32)) a_sh a_up a_ie a_ex))])) rfl (by rw [hml]; rfl) (lenOf pd_1 rfl) rfl (by show 2 * 0 + _ ≤ _; exact Nat.le_of_eq rfl) (hb hby at_34)
    refine own_go (T' := T4) (g' := (mkF m 37 #[.val (.int xa), .val (.int xb), .val (.int (xa &&& (3 : Int32))), .val (.int (xb &&& (3 : Int32))), .val (.int (1 : Int32))] [(.ref (own_mode (xb &&& (3 : Int32)) a_sh a_up a_ie a_ex)), (.ref (own_mode (xa &&& (3 : Int32)) a_sh a_up a_ie a_ex))])) (fun t_ K => st4 _ K) ?_
    obtain ⟨T5, X5, e5, st5⟩ := own_callV (W := 0) (rm := { frames := 0, cells := 0, slots := 0, locals := 0 }) X4 hx hZ hown (hw _ (List.mem_of_getElem? (i := 12) rfl)) (hw _ (List.mem_of_getElem? (i := 13) rfl)) (hw _ (List.mem_of_getElem? (i := 15) rfl)) (notFace_of_selects (args := #[]) (mvT hZ (hw _ (List.mem_of_getElem? (i := 15) rfl)))) (hw _ (List.mem_of_getElem? (i := 14) rfl)) (hw _ (List.mem_of_getElem? (i := 8) rfl)) (hw _ (List.mem_of_getElem? (i := 16) rfl)) (by decide) e4 (own_exa E_sh E_up E_ie E_ex) (argsL := [(.ref (own_mode (xb &&& (3 : Int32)) a_sh a_up a_ie a_ex))]) (rest := []) (r := some (.int (own_cov (own_mode (xa &&& (3 : Int32)) a_sh a_up a_ie a_ex) (own_mode (xb &&& (3 : Int32)) a_sh a_up a_ie a_ex) a_sh a_up a_ie a_ex))) (rm_cv l Z a0 hw (own_mode (xa &&& (3 : Int32)) a_sh a_up a_ie a_ex) (own_mode (xb &&& (3 : Int32)) a_sh a_up a_ie a_ex) a_sh a_up a_ie a_ex h0 S_sh S_up S_ie S_ex) rfl rfl (by decide) (by decide) (by decide) (by decide) (g := (mkF m 37 #[.val (.int xa), .val (.int xb), .val (.int (xa &&& (3 : Int32))), .val (.int (xb &&& (3 : Int32))), .val (.int (1 : Int32))] [(.ref (own_mode (xb &&& (3 : Int32)) a_sh a_up a_ie a_ex)), (.ref (own_mode (xa &&& (3 : Int32)) a_sh a_up a_ie a_ex))])) rfl (by rw [hml]; rfl) (lenOf pd_2 rfl) rfl (by show 2 * 0 + _ ≤ _; exact Nat.le_of_eq rfl) (hb hby at_37)
    refine own_go (T' := T5) (g' := (mkF m 40 #[.val (.int xa), .val (.int xb), .val (.int (xa &&& (3 : Int32))), .val (.int (xb &&& (3 : Int32))), .val (.int (1 : Int32))] [(.int (own_cov (own_mode (xa &&& (3 : Int32)) a_sh a_up a_ie a_ex) (own_mode (xb &&& (3 : Int32)) a_sh a_up a_ie a_ex) a_sh a_up a_ie a_ex))])) (fun t_ K => st5 _ K) ?_
    refine own_go (T' := T5) (g' := (mkF m 42 #[.val (.int xa), .val (.int xb), .val (.int (xa &&& (3 : Int32))), .val (.int (xb &&& (3 : Int32))), .val (.int (1 : Int32))] [(.int (1 : Int32)), (.int (own_cov (own_mode (xa &&& (3 : Int32)) a_sh a_up a_ie a_ex) (own_mode (xb &&& (3 : Int32)) a_sh a_up a_ie a_ex) a_sh a_up a_ie a_ex))])) (fun t_ K => XS.iload X5.here hx rfl (hb hby at_40) rfl K) ?_
    refine own_go (T' := T5) (g' := (mkF m 45 #[.val (.int xa), .val (.int xb), .val (.int (xa &&& (3 : Int32))), .val (.int (xb &&& (3 : Int32))), .val (.int (1 : Int32))] [])) (fun t_ K => XS.icmpNo X5.here hx rfl (hb hby at_42) rfl (teq ((own_key xa xb a_sh a_up a_ie a_ex n_sh_up n_sh_ie n_sh_ex n_up_ie n_up_ex n_ie_ex).trans (if_pos c19))).2 K) ?_
    refine own_go (T' := T5) (g' := (mkF m 46 #[.val (.int xa), .val (.int xb), .val (.int (xa &&& (3 : Int32))), .val (.int (xb &&& (3 : Int32))), .val (.int (1 : Int32))] [(.int (1 : Int32))])) (fun t_ K => XS.iconst X5.here hx rfl (hb hby at_45) K) ?_
    refine own_go (T' := T5) (g' := (mkF m 50 #[.val (.int xa), .val (.int xb), .val (.int (xa &&& (3 : Int32))), .val (.int (xb &&& (3 : Int32))), .val (.int (1 : Int32))] [(.int (1 : Int32))])) (fun t_ K => XS.goto X5.here hx rfl (pc0 := 46) (pc' := 50) rfl (hb hby at_46) (by decide) (by decide) K) ?_
    exact own_retZ X5 hx Bd.returns hlk (Or.inr rfl) (hb hby at_50) ⟨rfl, rfl, e5⟩ (by decide) (by decide)
  · refine own_go (T' := T2) (g' := (mkF m 26 #[.val (.int xa), .val (.int xb), .val (.int (xa &&& (3 : Int32))), .val (.int (xb &&& (3 : Int32))), .unset] [])) (fun t_ K => XS.ifYes X2.here hx rfl (pc0 := 19) (pc' := 26) rfl (hb hby at_19) rfl ((if0 _ _).trans (feq c19).2) (by decide) (by decide) K) ?_
    refine own_go (T' := T2) (g' := (mkF m 27 #[.val (.int xa), .val (.int xb), .val (.int (xa &&& (3 : Int32))), .val (.int (xb &&& (3 : Int32))), .unset] [(.int (0 : Int32))])) (fun t_ K => XS.iconst X2.here hx rfl (hb hby at_26) K) ?_
    refine own_go (T' := T2) (g' := (mkF m 29 #[.val (.int xa), .val (.int xb), .val (.int (xa &&& (3 : Int32))), .val (.int (xb &&& (3 : Int32))), .val (.int (0 : Int32))] [])) (fun t_ K => XS.istore X2.here hx rfl (hb hby at_27) rfl (l' := #[.val (.int xa), .val (.int xb), .val (.int (xa &&& (3 : Int32))), .val (.int (xb &&& (3 : Int32))), .val (.int (0 : Int32))]) rfl K) ?_
    refine own_go (T' := T2) (g' := (mkF m 30 #[.val (.int xa), .val (.int xb), .val (.int (xa &&& (3 : Int32))), .val (.int (xb &&& (3 : Int32))), .val (.int (0 : Int32))] [(.int (xa &&& (3 : Int32)))])) (fun t_ K => XS.iloadN X2.here hx rfl (hb hby at_29) rfl K) ?_
    obtain ⟨T6, X6, e6, st6⟩ := own_callS (W := 0) (rm := { frames := 0, cells := 0, slots := 0, locals := 0 }) X2 hx hZ hown (hw _ (List.mem_of_getElem? (i := 4) rfl)) (hw _ (List.mem_of_getElem? (i := 5) rfl)) (hw _ (List.mem_of_getElem? (i := 2) rfl)) (hw _ (List.mem_of_getElem? (i := 6) rfl)) (by decide) e2 (argsL := [(.int (xa &&& (3 : Int32)))]) (rest := []) (r := some (.ref (own_mode (xa &&& (3 : Int32)) a_sh a_up a_ie a_ex))) (rm_md l Z a0 hw (xa &&& (3 : Int32)) a_sh a_up a_ie a_ex h0 S_sh S_up S_ie S_ex) rfl rfl (by decide) (by decide) (by decide) (by decide) (g := (mkF m 30 #[.val (.int xa), .val (.int xb), .val (.int (xa &&& (3 : Int32))), .val (.int (xb &&& (3 : Int32))), .val (.int (0 : Int32))] [(.int (xa &&& (3 : Int32)))])) rfl (by rw [hml]; rfl) (lenOf pd_1 rfl) rfl (by show 2 * 0 + _ ≤ _; exact Nat.le_of_eq rfl) (hb hby at_30)
    refine own_go (T' := T6) (g' := (mkF m 33 #[.val (.int xa), .val (.int xb), .val (.int (xa &&& (3 : Int32))), .val (.int (xb &&& (3 : Int32))), .val (.int (0 : Int32))] [(.ref (own_mode (xa &&& (3 : Int32)) a_sh a_up a_ie a_ex))])) (fun t_ K => st6 _ K) ?_
    refine own_go (T' := T6) (g' := (mkF m 34 #[.val (.int xa), .val (.int xb), .val (.int (xa &&& (3 : Int32))), .val (.int (xb &&& (3 : Int32))), .val (.int (0 : Int32))] [(.int (xb &&& (3 : Int32))), (.ref (own_mode (xa &&& (3 : Int32)) a_sh a_up a_ie a_ex))])) (fun t_ K => XS.iloadN X6.here hx rfl (hb hby at_33) rfl K) ?_
    obtain ⟨T7, X7, e7, st7⟩ := own_callS (W := 1) (rm := { frames := 0, cells := 0, slots := 0, locals := 0 }) X6 hx hZ hown (hw _ (List.mem_of_getElem? (i := 4) rfl)) (hw _ (List.mem_of_getElem? (i := 5) rfl)) (hw _ (List.mem_of_getElem? (i := 2) rfl)) (hw _ (List.mem_of_getElem? (i := 6) rfl)) (by decide) e6 (argsL := [(.int (xb &&& (3 : Int32)))]) (rest := [(.ref (own_mode (xa &&& (3 : Int32)) a_sh a_up a_ie a_ex))]) (r := some (.ref (own_mode (xb &&& (3 : Int32)) a_sh a_up a_ie a_ex))) (rm_md l Z a0 hw (xb &&& (3 : Int32)) a_sh a_up a_ie a_ex h0 S_sh S_up S_ie S_ex) rfl rfl (by decide) (by decide) (by decide) (by decide) (g := (mkF m 34 #[.val (.int xa), .val (.int xb), .val (.int (xa &&& (3 : Int32))), .val (.int (xb &&& (3 : Int32))), .val (.int (0 : Int32))] [(.int (xb &&& (3 : Int32))), (.ref (own_mode (xa &&& (3 : Int32)) a_sh a_up a_ie a_ex))])) rfl (by rw [hml]; rfl) (lenOf pd_1 rfl) rfl (by show 2 * 0 + _ ≤ _; exact Nat.le_of_eq rfl) (hb hby at_34)
    refine own_go (T' := T7) (g' := (mkF m 37 #[.val (.int xa), .val (.int xb), .val (.int (xa &&& (3 : Int32))), .val (.int (xb &&& (3 : Int32))), .val (.int (0 : Int32))] [(.ref (own_mode (xb &&& (3 : Int32)) a_sh a_up a_ie a_ex)), (.ref (own_mode (xa &&& (3 : Int32)) a_sh a_up a_ie a_ex))])) (fun t_ K => st7 _ K) ?_
    obtain ⟨T8, X8, e8, st8⟩ := own_callV (W := 0) (rm := { frames := 0, cells := 0, slots := 0, locals := 0 }) X7 hx hZ hown (hw _ (List.mem_of_getElem? (i := 12) rfl)) (hw _ (List.mem_of_getElem? (i := 13) rfl)) (hw _ (List.mem_of_getElem? (i := 15) rfl)) (notFace_of_selects (args := #[]) (mvT hZ (hw _ (List.mem_of_getElem? (i := 15) rfl)))) (hw _ (List.mem_of_getElem? (i := 14) rfl)) (hw _ (List.mem_of_getElem? (i := 8) rfl)) (hw _ (List.mem_of_getElem? (i := 16) rfl)) (by decide) e7 (own_exa E_sh E_up E_ie E_ex) (argsL := [(.ref (own_mode (xb &&& (3 : Int32)) a_sh a_up a_ie a_ex))]) (rest := []) (r := some (.int (own_cov (own_mode (xa &&& (3 : Int32)) a_sh a_up a_ie a_ex) (own_mode (xb &&& (3 : Int32)) a_sh a_up a_ie a_ex) a_sh a_up a_ie a_ex))) (rm_cv l Z a0 hw (own_mode (xa &&& (3 : Int32)) a_sh a_up a_ie a_ex) (own_mode (xb &&& (3 : Int32)) a_sh a_up a_ie a_ex) a_sh a_up a_ie a_ex h0 S_sh S_up S_ie S_ex) rfl rfl (by decide) (by decide) (by decide) (by decide) (g := (mkF m 37 #[.val (.int xa), .val (.int xb), .val (.int (xa &&& (3 : Int32))), .val (.int (xb &&& (3 : Int32))), .val (.int (0 : Int32))] [(.ref (own_mode (xb &&& (3 : Int32)) a_sh a_up a_ie a_ex)), (.ref (own_mode (xa &&& (3 : Int32)) a_sh a_up a_ie a_ex))])) rfl (by rw [hml]; rfl) (lenOf pd_2 rfl) rfl (by show 2 * 0 + _ ≤ _; exact Nat.le_of_eq rfl) (hb hby at_37)
    refine own_go (T' := T8) (g' := (mkF m 40 #[.val (.int xa), .val (.int xb), .val (.int (xa &&& (3 : Int32))), .val (.int (xb &&& (3 : Int32))), .val (.int (0 : Int32))] [(.int (own_cov (own_mode (xa &&& (3 : Int32)) a_sh a_up a_ie a_ex) (own_mode (xb &&& (3 : Int32)) a_sh a_up a_ie a_ex) a_sh a_up a_ie a_ex))])) (fun t_ K => st8 _ K) ?_
    refine own_go (T' := T8) (g' := (mkF m 42 #[.val (.int xa), .val (.int xb), .val (.int (xa &&& (3 : Int32))), .val (.int (xb &&& (3 : Int32))), .val (.int (0 : Int32))] [(.int (0 : Int32)), (.int (own_cov (own_mode (xa &&& (3 : Int32)) a_sh a_up a_ie a_ex) (own_mode (xb &&& (3 : Int32)) a_sh a_up a_ie a_ex) a_sh a_up a_ie a_ex))])) (fun t_ K => XS.iload X8.here hx rfl (hb hby at_40) rfl K) ?_
    refine own_go (T' := T8) (g' := (mkF m 45 #[.val (.int xa), .val (.int xb), .val (.int (xa &&& (3 : Int32))), .val (.int (xb &&& (3 : Int32))), .val (.int (0 : Int32))] [])) (fun t_ K => XS.icmpNo X8.here hx rfl (hb hby at_42) rfl (teq ((own_key xa xb a_sh a_up a_ie a_ex n_sh_up n_sh_ie n_sh_ex n_up_ie n_up_ex n_ie_ex).trans (if_neg c19))).2 K) ?_
    refine own_go (T' := T8) (g' := (mkF m 46 #[.val (.int xa), .val (.int xb), .val (.int (xa &&& (3 : Int32))), .val (.int (xb &&& (3 : Int32))), .val (.int (0 : Int32))] [(.int (1 : Int32))])) (fun t_ K => XS.iconst X8.here hx rfl (hb hby at_45) K) ?_
    refine own_go (T' := T8) (g' := (mkF m 50 #[.val (.int xa), .val (.int xb), .val (.int (xa &&& (3 : Int32))), .val (.int (xb &&& (3 : Int32))), .val (.int (0 : Int32))] [(.int (1 : Int32))])) (fun t_ K => XS.goto X8.here hx rfl (pc0 := 46) (pc' := 50) rfl (hb hby at_46) (by decide) (by decide) K) ?_
    exact own_retZ X8 hx Bd.returns hlk (Or.inr rfl) (hb hby at_50) ⟨rfl, rfl, e8⟩ (by decide) (by decide)
set_option maxRecDepth 65536 in
set_option maxHeartbeats 40000000 in
theorem comes_1 {Post : Tables → Env → Array Value → State → Outcome → State → Prop} (hpost : ∀ tb e args s v u, (limb_1_1.after args s (.returned v) u = true ∧ limb_1_2.after args s (.returned v) u = true ∧ True) → FrameEnd s (.returned v) u (Jvm.fieldLocs frame_1_writes args s ++ Jvm.arrayLocs frame_1_arrays args s ++ Jvm.staticLocs frame_1_statics s) 0 0 → Post tb e args s (.returned v) u) :
    ArmFor flags0 classFile x code maxLocals ret World_1 tables_1 room_1 Calls_1 rest_1 Pre_1 Post := by
  intro l hfl _ _ p e ha hc hk s m args below hf hA hF happ hP
  obtain ⟨hcalls, hrest, hpre⟩ := hP
  obtain ⟨-, -, -, hnamed, -, -, -, hat⟩ := (Spec.applies_iff hf).mp happ
  obtain ⟨hg, hn⟩ := and_e (Cond.before_iff.mp (show (Jvm.Cond.and given_1 narrow_1).before args s = true from hpre))
  obtain ⟨hcount, hk0⟩ := and_e hg
  obtain ⟨w0, w1, rfl⟩ : ∃ w0 w1 : Value, args = #[w0, w1] := by
    have hs : args.size = 2 := by simpa [Cond.value, given_1] using hcount
    obtain ⟨L⟩ := args
    match L, hs with
    | [w0, w1], _ => exact ⟨w0, w1, rfl⟩
  have hw := fun d (hd : d ∈ tables_1) => atoms_spec (ws := Jvm.Cond.code x code maxLocals ret :: tables_1) hat d (List.mem_cons_of_mem _ hd)
  have hfit : Fit s := fun {y c} hc i hi => by
    obtain ⟨ha, rfl⟩ := Array.getElem?_eq_some_iff.mp hc
    have q := List.all_eq_true.mp ((Array.all_eq_true_iff_forall_mem.mp hF) _ (Array.getElem_mem ha)) i (List.mem_range.mpr hi)
    simpa [Array.getElem?_eq_getElem hi] using q
  obtain ⟨ka0, hk1⟩ := and_e hk0
  obtain ⟨q0, f0⟩ := is_v ka0
  obtain rfl : w0 = (.int q0) := Option.some.inj f0
  obtain ⟨q1, f1⟩ := is_v hk1
  obtain rfl : w1 = (.int q1) := Option.some.inj f1
  obtain ⟨hz0, hn0⟩ := and_e hn
  obtain ⟨hz1, hn1⟩ := and_e hn0
  obtain ⟨hz2, hn2⟩ := and_e hn1
  obtain ⟨hz3, hn3⟩ := and_e hn2
  obtain ⟨hz4, hn4⟩ := and_e hn3
  obtain ⟨hz5, hn5⟩ := and_e hn4
  obtain ⟨hz6, hn6⟩ := and_e hn5
  have hz7 := hn6
  obtain ⟨a_sh, v_sh⟩ := exa_v hz0
  have S_sh : Sta s s.heap "com/example/ledgerwalk/ledgerwalk/LockTable$Mode" "SHARED" "Lcom/example/ledgerwalk/ledgerwalk/LockTable$Mode;" (.ref a_sh) := Sta.start v_sh (Or.inr ⟨(hw _ (List.mem_of_getElem? (i := 8) rfl)), (hw _ (List.mem_of_getElem? (i := 9) rfl))⟩)
  have E_sh : Exa s s.heap a_sh "com/example/ledgerwalk/ledgerwalk/LockTable$Mode" := Exa.start v_sh hz0
  have O_sh := own_ord v_sh hz2
  obtain ⟨a_up, v_up⟩ := exa_v hz4
  have S_up : Sta s s.heap "com/example/ledgerwalk/ledgerwalk/LockTable$Mode" "UPDATE" "Lcom/example/ledgerwalk/ledgerwalk/LockTable$Mode;" (.ref a_up) := Sta.start v_up (Or.inr ⟨(hw _ (List.mem_of_getElem? (i := 8) rfl)), (hw _ (List.mem_of_getElem? (i := 19) rfl))⟩)
  have E_up : Exa s s.heap a_up "com/example/ledgerwalk/ledgerwalk/LockTable$Mode" := Exa.start v_up hz4
  have O_up := own_ord v_up hz5
  obtain ⟨a_ie, v_ie⟩ := exa_v hz6
  have S_ie : Sta s s.heap "com/example/ledgerwalk/ledgerwalk/LockTable$Mode" "INTENTION_EXCLUSIVE" "Lcom/example/ledgerwalk/ledgerwalk/LockTable$Mode;" (.ref a_ie) := Sta.start v_ie (Or.inr ⟨(hw _ (List.mem_of_getElem? (i := 8) rfl)), (hw _ (List.mem_of_getElem? (i := 21) rfl))⟩)
  have E_ie : Exa s s.heap a_ie "com/example/ledgerwalk/ledgerwalk/LockTable$Mode" := Exa.start v_ie hz6
  have O_ie := own_ord v_ie hz7
  obtain ⟨a_ex, v_ex⟩ := exa_v hz1
  have S_ex : Sta s s.heap "com/example/ledgerwalk/ledgerwalk/LockTable$Mode" "EXCLUSIVE" "Lcom/example/ledgerwalk/ledgerwalk/LockTable$Mode;" (.ref a_ex) := Sta.start v_ex (Or.inr ⟨(hw _ (List.mem_of_getElem? (i := 8) rfl)), (hw _ (List.mem_of_getElem? (i := 11) rfl))⟩)
  have E_ex : Exa s s.heap a_ex "com/example/ledgerwalk/ledgerwalk/LockTable$Mode" := Exa.start v_ex hz1
  have O_ex := own_ord v_ex hz3
  have n_sh_up : a_sh ≠ a_up := Fld.ne O_sh O_up (fun q => absurd (Value.int.inj q) (by decide))
  have n_sh_ie : a_sh ≠ a_ie := Fld.ne O_sh O_ie (fun q => absurd (Value.int.inj q) (by decide))
  have n_sh_ex : a_sh ≠ a_ex := Fld.ne O_sh O_ex (fun q => absurd (Value.int.inj q) (by decide))
  have n_up_ie : a_up ≠ a_ie := Fld.ne O_up O_ie (fun q => absurd (Value.int.inj q) (by decide))
  have n_up_ex : a_up ≠ a_ex := Fld.ne O_up O_ex (fun q => absurd (Value.int.inj q) (by decide))
  have n_ie_ex : a_ie ≠ a_ex := Fld.ne O_ie O_ex (fun q => absurd (Value.int.inj q) (by decide))
  obtain ⟨n, o, h1, h2, h3, _, L, rfl, hQ, hq⟩ := rm_law l s _ hw tables_1 q0 q1 a_sh a_up a_ie a_ex s.heap S_sh S_up S_ie S_ex E_sh E_up E_ie E_ex n_sh_up n_sh_ie n_sh_ex n_up_ie n_up_ex n_ie_ex p e ha hc hk s m _ below hf ((Spec.applies_iff_loose hf).mp happ).1 ⟨rfl, State.Warmed39.refl s, rfl⟩ trivial
  obtain ⟨rfl, rfl, -⟩ := hQ
  refine ⟨n, _, h1, h2, h3, hpost _ _ _ _ _ _ ⟨Cond.after_iff.mpr rfl, Cond.after_iff.mpr (eq_i res_at (Term.int_eval (1)) rfl), trivial⟩ ⟨hq.1, hq.2.1, (hq.2.2.sift fun y hy => nomatch hy).mono (by decide) (by decide)⟩⟩
theorem main_1_1 : Claimed_1_1 := comes_1 fun _ _ _ _ _ _ h hF => ⟨h.1, hF⟩
theorem main_1_2 : Claimed_1_2 := comes_1 fun _ _ _ _ _ _ h hF => ⟨h.2.1, hF⟩
end Jvm.Pilot.@@N@@
namespace Jvm.Pilot.@@N@@
open Jvm Jvm.ClassFile Sem Op Lib Jvm.Free Jvm.Stand Jvm.Pilot.@@N@@.Jvm.D
/-! MADE BY PROGRAM (witnessworld.py) out of the Statement's table words and the real class files: 12 classes; the members and pool entries that the words name. The judged class is class 1, her method 3. -/
namespace start1
open Jvm.ClassFile
def u (s : String) : CpInfo := .utf8 (stringToUtf16 s)
/-- a pool by its gaps: so many unusable entries, then the entry; so many at the end -/
def gap : Nat → List CpInfo → List CpInfo
  | 0, r => r
  | n + 1, r => .unusable :: gap n r
def poolList (es : List (Nat × CpInfo)) (last : Nat) : List CpInfo := es.foldr (fun e r => gap e.1 (e.2 :: r)) (gap last [])
def pool (es : List (Nat × CpInfo)) (last : Nat) : Array CpInfo := ⟨poolList es last⟩
def fileOf (pool : Array CpInfo) (this : Nat) (attrs : Array Attribute := #[]) (ms : Array MethodInfo := #[]) (fl : Nat := 33) (sup : Nat := 0) (ifs : Array Nat := #[]) (fds : Array FieldInfo := #[]) : ClassFile where
  minorVersion := 0
  majorVersion := 65
  constantPool := pool
  accessFlags := fl
  thisClass := this
  superClass := sup
  interfaces := ifs
  fields := fds
  methods := ms
  attributes := attrs
def plain (name : String) (sup : Option ClassId) : Class where
  name := name
  kind := .ordinary
  loader := none
  accessFlags := 33
  super := sup
  interfaces := #[]
  cf := none
  fields := #[]
  methods := #[]
  instanceTypes := #[]
  staticTypes := #[]
  resolved := #[]
  callSites := []
  init := .initialized
  statics := none
  mirror := none

def pool0 : Array CpInfo := pool [(5, u "<init>"), (0, u "()V"), (1, .class_ 10), (1, u "java/lang/Object")] 113

def k0m0 : Method := { name := "<init>", desc := "()V", sig := { parameters := [], returnType := none }, accessFlags := 1, code := none }
/-- java/lang/Object -/
def k0 : Class := { plain "java/lang/Object" none with
  accessFlags := 33
  interfaces := #[]
  cf := some (fileOf pool0 8 #[] #[{ accessFlags := 1, nameIndex := 5, descriptorIndex := 6, attributes := #[] }] 33 0 #[] #[])
  fields := #[]
  methods := #[k0m0]
  instanceTypes := #[]
  staticTypes := #[]
  resolved := Array.replicate 124 none
  statics := none }

def pool1 : Array CpInfo := pool [(2, .class_ 4), (1, u "java/lang/Object"), (0, u "<init>"), (0, u "()V"), (0, .fieldref 8 9), (0, .class_ 10), (0, .nameAndType 11 12), (0, u "com/example/ledgerwalk/ledgerwalk/LockTable$Mode"), (0, u "SHARED"), (0, u "Lcom/example/ledgerwalk/ledgerwalk/LockTable$Mode;"), (0, .fieldref 8 14), (0, .nameAndType 15 12), (0, u "UPDATE"), (0, .fieldref 8 17), (0, .nameAndType 18 12), (0, u "INTENTION_EXCLUSIVE"), (0, .fieldref 8 20), (0, .nameAndType 21 12), (0, u "EXCLUSIVE"), (0, .methodref 23 24), (0, .class_ 25), (0, .nameAndType 26 27), (0, u "com/example/ledgerwalk/ledgerwalk/ModeCoversPinLaw"), (0, u "caps"), (0, u "(I)I"), (0, .methodref 23 29), (0, .nameAndType 30 31), (0, u "mode"), (0, u "(I)Lcom/example/ledgerwalk/ledgerwalk/LockTable$Mode;"), (0, .methodref 8 33), (0, .nameAndType 34 35), (0, u "covers"), (0, u "(Lcom/example/ledgerwalk/ledgerwalk/LockTable$Mode;)Z"), (3, u "law"), (0, u "(II)Z")] 6

def k1m0 : Method := { name := "<init>", desc := "()V", sig := { parameters := [], returnType := none }, accessFlags := 2, code := none }
def k1c1 : Code := { maxStack := 2, maxLocals := 1, code := method_2_code, exceptionTable := #[], attributes := #[] }
def k1m1 : Method := { name := "mode", desc := "(I)Lcom/example/ledgerwalk/ledgerwalk/LockTable$Mode;", sig := { parameters := [.int], returnType := some (.object "com/example/ledgerwalk/ledgerwalk/LockTable$Mode") }, accessFlags := 10, code := some k1c1 }
def k1c2 : Code := { maxStack := 2, maxLocals := 1, code := method_3_code, exceptionTable := #[], attributes := #[] }
def k1m2 : Method := { name := "caps", desc := "(I)I", sig := { parameters := [.int], returnType := some .int }, accessFlags := 10, code := some k1c2 }
def k1c3 : Code := { maxStack := 3, maxLocals := 5, code := code, exceptionTable := #[], attributes := #[] }
def k1m3 : Method := { name := "law", desc := "(II)Z", sig := { parameters := [.int, .int], returnType := some .boolean }, accessFlags := 9, code := some k1c3 }
/-- com/example/ledgerwalk/ledgerwalk/ModeCoversPinLaw -/
def k1 : Class := { plain "com/example/ledgerwalk/ledgerwalk/ModeCoversPinLaw" (some 0) with
  accessFlags := 49
  interfaces := #[]
  cf := some (fileOf pool1 23 #[] #[{ accessFlags := 2, nameIndex := 5, descriptorIndex := 6, attributes := #[] }, { accessFlags := 10, nameIndex := 30, descriptorIndex := 31, attributes := #[] }, { accessFlags := 10, nameIndex := 26, descriptorIndex := 27, attributes := #[] }, { accessFlags := 9, nameIndex := 39, descriptorIndex := 40, attributes := #[] }] 49 2 #[] #[])
  fields := #[]
  methods := #[k1m0, k1m1, k1m2, k1m3]
  instanceTypes := #[]
  staticTypes := #[]
  resolved := Array.replicate 47 none
  statics := none }

def pool2 : Array CpInfo := pool [(1, .class_ 2), (0, u "java/lang/constant/Constable"), (0, .class_ 4), (0, u "java/lang/Object")] 6

/-- java/lang/constant/Constable -/
def k2 : Class := { plain "java/lang/constant/Constable" (some 0) with
  accessFlags := 1537
  interfaces := #[]
  cf := some (fileOf pool2 1 #[] #[] 1537 3 #[] #[])
  fields := #[]
  methods := #[]
  instanceTypes := #[]
  staticTypes := #[]
  resolved := Array.replicate 11 none
  statics := none }

def pool3 : Array CpInfo := pool [(1, .class_ 2), (0, u "java/lang/Comparable"), (0, .class_ 4), (0, u "java/lang/Object")] 7

/-- java/lang/Comparable -/
def k3 : Class := { plain "java/lang/Comparable" (some 0) with
  accessFlags := 1537
  interfaces := #[]
  cf := some (fileOf pool3 1 #[] #[] 1537 3 #[] #[])
  fields := #[]
  methods := #[]
  instanceTypes := #[]
  staticTypes := #[]
  resolved := Array.replicate 12 none
  statics := none }

def pool4 : Array CpInfo := pool [(1, .class_ 2), (0, u "java/io/Serializable"), (0, .class_ 4), (0, u "java/lang/Object")] 2

/-- java/io/Serializable -/
def k4 : Class := { plain "java/io/Serializable" (some 0) with
  accessFlags := 1537
  interfaces := #[]
  cf := some (fileOf pool4 1 #[] #[] 1537 3 #[] #[])
  fields := #[]
  methods := #[]
  instanceTypes := #[]
  staticTypes := #[]
  resolved := Array.replicate 7 none
  statics := none }

def pool5 : Array CpInfo := pool [(2, .class_ 4), (1, u "java/lang/Enum"), (0, u "name"), (0, u "Ljava/lang/String;"), (2, u "ordinal"), (0, u "I"), (1, .class_ 14), (1, u "java/lang/Object"), (4, u "hash"), (86, .class_ 108), (1, u "java/lang/Enum$EnumDesc"), (2, .class_ 112), (0, u "java/lang/constant/Constable"), (0, .class_ 114), (0, u "java/lang/Comparable"), (0, .class_ 116), (0, u "java/io/Serializable")] 87

/-- java/lang/Enum -/
def k5 : Class := { plain "java/lang/Enum" (some 0) with
  accessFlags := 1057
  interfaces := #[2, 3, 4]
  cf := some (fileOf pool5 2 #[.nestMembers #[106]] #[] 1057 12 #[111, 113, 115] #[{ accessFlags := 18, nameIndex := 5, descriptorIndex := 6, attributes := #[] }, { accessFlags := 18, nameIndex := 9, descriptorIndex := 10, attributes := #[] }, { accessFlags := 2, nameIndex := 19, descriptorIndex := 10, attributes := #[] }])
  fields := #[{ name := "name", type := (.object "java/lang/String"), accessFlags := 18, slot := 0, constantValue := 0 }, { name := "ordinal", type := .int, accessFlags := 18, slot := 1, constantValue := 0 }, { name := "hash", type := .int, accessFlags := 2, slot := 2, constantValue := 0 }]
  methods := #[]
  instanceTypes := #[(.object "java/lang/String"), .int, .int]
  staticTypes := #[]
  resolved := Array.replicate 204 none
  statics := none }

def pool6 : Array CpInfo := pool [(1, .class_ 2), (0, u "com/example/ledgerwalk/ledgerwalk/LockTable$Mode"), (0, .fieldref 1 4), (0, .nameAndType 5 6), (0, u "SHARED"), (0, u "Lcom/example/ledgerwalk/ledgerwalk/LockTable$Mode;"), (0, .fieldref 1 8), (0, .nameAndType 9 6), (0, u "UPDATE"), (2, u "INTENTION_EXCLUSIVE"), (0, .fieldref 1 14), (0, .nameAndType 15 6), (0, u "EXCLUSIVE"), (2, u "$VALUES"), (0, u "[Lcom/example/ledgerwalk/ledgerwalk/LockTable$Mode;"), (6, .class_ 28), (1, u "java/lang/Enum"), (8, u "inTheWay"), (0, u "Ljava/lang/String;"), (11, u "covers"), (0, u "(Lcom/example/ledgerwalk/ledgerwalk/LockTable$Mode;)Z"), (37, .class_ 90), (0, u "com/example/ledgerwalk/ledgerwalk/LockTable")] 2

def k6c0 : Code := { maxStack := 2, maxLocals := 2, code := prog_26_method_6_code, exceptionTable := #[], attributes := #[] }
def k6m0 : Method := { name := "covers", desc := "(Lcom/example/ledgerwalk/ledgerwalk/LockTable$Mode;)Z", sig := { parameters := [(.object "com/example/ledgerwalk/ledgerwalk/LockTable$Mode")], returnType := some .boolean }, accessFlags := 0, code := some k6c0 }
/-- com/example/ledgerwalk/ledgerwalk/LockTable$Mode -/
def k6 : Class := { plain "com/example/ledgerwalk/ledgerwalk/LockTable$Mode" (some 5) with
  accessFlags := 16432
  interfaces := #[]
  cf := some (fileOf pool6 1 #[.nestHost 89] #[{ accessFlags := 0, nameIndex := 50, descriptorIndex := 51, attributes := #[] }] 16432 26 #[] #[{ accessFlags := 16409, nameIndex := 5, descriptorIndex := 6, attributes := #[] }, { accessFlags := 16409, nameIndex := 9, descriptorIndex := 6, attributes := #[] }, { accessFlags := 16409, nameIndex := 12, descriptorIndex := 6, attributes := #[] }, { accessFlags := 16409, nameIndex := 15, descriptorIndex := 6, attributes := #[] }, { accessFlags := 18, nameIndex := 37, descriptorIndex := 38, attributes := #[] }, { accessFlags := 4122, nameIndex := 18, descriptorIndex := 19, attributes := #[] }])
  fields := #[{ name := "SHARED", type := (.object "com/example/ledgerwalk/ledgerwalk/LockTable$Mode"), accessFlags := 16409, slot := 0, constantValue := 0 }, { name := "UPDATE", type := (.object "com/example/ledgerwalk/ledgerwalk/LockTable$Mode"), accessFlags := 16409, slot := 1, constantValue := 0 }, { name := "INTENTION_EXCLUSIVE", type := (.object "com/example/ledgerwalk/ledgerwalk/LockTable$Mode"), accessFlags := 16409, slot := 2, constantValue := 0 }, { name := "EXCLUSIVE", type := (.object "com/example/ledgerwalk/ledgerwalk/LockTable$Mode"), accessFlags := 16409, slot := 3, constantValue := 0 }, { name := "inTheWay", type := (.object "java/lang/String"), accessFlags := 18, slot := 3, constantValue := 0 }, { name := "$VALUES", type := (.array (.object "com/example/ledgerwalk/ledgerwalk/LockTable$Mode")), accessFlags := 4122, slot := 4, constantValue := 0 }]
  methods := #[k6m0]
  instanceTypes := #[(.object "java/lang/String"), .int, .int, (.object "java/lang/String")]
  staticTypes := #[(.object "com/example/ledgerwalk/ledgerwalk/LockTable$Mode"), (.object "com/example/ledgerwalk/ledgerwalk/LockTable$Mode"), (.object "com/example/ledgerwalk/ledgerwalk/LockTable$Mode"), (.object "com/example/ledgerwalk/ledgerwalk/LockTable$Mode"), (.array (.object "com/example/ledgerwalk/ledgerwalk/LockTable$Mode"))]
  resolved := Array.replicate 93 none
  statics := some 0 }

def pool7 : Array CpInfo := pool [(1, u "java/lang/Cloneable"), (0, .class_ 1), (0, u "java/lang/Object"), (0, .class_ 3)] 3

/-- java/lang/Cloneable -/
def k7 : Class := { plain "java/lang/Cloneable" (some 0) with
  accessFlags := 1537
  interfaces := #[]
  cf := some (fileOf pool7 2 #[] #[] 1537 4 #[] #[])
  fields := #[]
  methods := #[]
  instanceTypes := #[]
  staticTypes := #[]
  resolved := Array.replicate 8 none
  statics := none }

/-- the primitive byte -/
def k8 : Class := { plain "byte" none with kind := .primitive 'B', accessFlags := 0x411 }
/-- [B -/
def k9 : Class := { plain "[B" (some 0) with kind := .array 8 .byte, interfaces := #[7, 4], accessFlags := 1041 }

/-- the primitive int -/
def k10 : Class := { plain "int" none with kind := .primitive 'I', accessFlags := 0x411 }
/-- [I -/
def k11 : Class := { plain "[I" (some 0) with kind := .array 10 .int, interfaces := #[7, 4], accessFlags := 1041 }

def heap : Heap := #[{ cls := 6, slots := #[.ref 1, .ref 2, .ref 3, .ref 4, .null], vm := .statics 6 },
  { cls := 6, slots := #[.null, .int 0, .int 0, .null], vm := .none },
  { cls := 6, slots := #[.null, .int 1, .int 0, .null], vm := .none },
  { cls := 6, slots := #[.null, .int 2, .int 0, .null], vm := .none },
  { cls := 6, slots := #[.null, .int 3, .int 0, .null], vm := .none }]
def classes : Array Class := #[k0, k1, k2, k3, k4, k5, k6, k7, k8, k9, k10, k11]
def interned : List (Array UInt16 × Addr) := []
def slotsUsed : Nat := 21
def theMethod : MethodId := ⟨1, 3⟩
def args0 : Array Value := #[.int 5, .int 7]
def aboutOver (below : List Frame) : State where
  vm := { classes := classes, interned := interned.toArray }
  heap := heap
  slotsUsed := slotsUsed
  threads := #[{ frames := .invoking theMethod args0 :: below }]
def below0 : List Frame := [.native { method := ⟨0, 0⟩, args := #[] }]
def about1 : State := aboutOver below0
def p0 : Program := .bare "" "" ""
def e0 : Env := launch0.env 0 0 0
theorem w_frames : about1.frames = Frame.invoking theMethod args0 :: below0 := rfl
set_option maxRecDepth 65536 in
theorem w_args : argsFit about1.vm theMethod args0 = true := by decide +kernel
set_option maxRecDepth 65536 in
theorem w_heap : heapFits about1 = true := by decide +kernel
set_option maxRecDepth 65536 in
theorem w_runnable : about1.curStatus? = some .runnable := by decide +kernel
set_option maxRecDepth 65536 in
theorem w_alone : about1.alone = true := by decide +kernel
set_option maxRecDepth 65536 in
theorem w_named : about1.methodNamed? x = some theMethod := by decide +kernel
set_option maxRecDepth 65536 in
theorem w_hears : about1.hears theMethod below0 = true := by decide +kernel
set_option maxRecDepth 65536 in
theorem w_ripe : about1.ripe theMethod args0 below0 = true := by decide +kernel
theorem w_running : about1.status = .running := rfl
set_option maxRecDepth 65536 in
theorem w_room : about1.hasRoom e0.platform room_1 = true :=
  launch0.hasRoom_least _ room_1 (by decide +kernel) (by decide +kernel) (by decide +kernel) (by decide +kernel) (by decide +kernel) (by decide +kernel)
theorem allAtoms_all (ts : List Jvm.Cond) (a : Array Jvm.Value) (st : Jvm.State) : (allAtoms ts).before a st = ts.all (fun c => c.before a st) := by
  induction ts with
  | nil => rfl
  | cons c t ih =>
    show (Jvm.Cond.and c (allAtoms t)).before a st = _
    rw [Jvm.Cond.before_and, ih, List.all_cons]
def words1 : List Jvm.Cond := Jvm.Cond.code x code maxLocals ret :: tables_1
/-- a 'code' word, met by the world's own term for the bytes: nothing is compared byte by byte -/
theorem code_word {y : MethodName} {bytes : ByteArray} {mx : Nat} {rt : Option FieldType} {a : Array Value} {s : State} {m : MethodId} {meth : Method} {c : Code} (h1 : s.methodNamed? y = some m) (h2 : s.vm.method? m = some meth) (h3 : meth.code = some c) (h4 : c.code = bytes)
    (h5 : (c.maxLocals == mx && c.exceptionTable.isEmpty && decide (c.maxStack ≤ mostOperands) && decide (meth.sig.returnType = rt) && !meth.locks && decide (parseMethodDescriptor y.desc = some meth.sig)) = true) : (Jvm.Cond.code y bytes mx rt).before a s = true := by
  simp only [Bool.and_eq_true, beq_iff_eq, Bool.not_eq_true', decide_eq_true_eq] at h5
  obtain ⟨⟨⟨⟨⟨g1, g2⟩, g3⟩, g4⟩, g5⟩, g6⟩ := h5
  simp [Cond.before, Cond.holds, Cond.value, h1, h2, h3, h4, g1, g2, g3, g4, g5, g6]
def isCode : Jvm.Cond → Bool
  | .code _ _ _ _ => true
  | _ => false
theorem all_split {L : List Jvm.Cond} {P : Jvm.Cond → Bool} (h1 : L.all (fun c => isCode c || P c) = true) (h2 : ∀ c ∈ L.filter isCode, P c = true) : L.all P = true := by
  refine List.all_eq_true.mpr fun c hc => ?_
  have h := List.all_eq_true.mp h1 c hc
  rcases Bool.eq_false_or_eq_true (isCode c) with hi | hi
  · exact h2 c (List.mem_filter.mpr ⟨hc, hi⟩)
  · simpa [hi] using h
set_option maxRecDepth 65536 in
theorem w_c0 : (Jvm.Cond.code x code maxLocals ret).before args0 about1 = true := code_word (m := ⟨1, 3⟩) (meth := k1m3) (c := k1c3) (by decide +kernel) rfl rfl rfl (by decide +kernel)
set_option maxRecDepth 65536 in
theorem w_c1 : (Jvm.Cond.code ({ cls := "com/example/ledgerwalk/ledgerwalk/ModeCoversPinLaw", name := "caps", desc := "(I)I" } : Jvm.MethodName) method_3_code (1 : Nat) (Option.some Jvm.ClassFile.FieldType.int)).before args0 about1 = true := code_word (m := ⟨1, 2⟩) (meth := k1m2) (c := k1c2) (by decide +kernel) rfl rfl rfl (by decide +kernel)
set_option maxRecDepth 65536 in
theorem w_c2 : (Jvm.Cond.code ({ cls := "com/example/ledgerwalk/ledgerwalk/ModeCoversPinLaw", name := "mode", desc := "(I)Lcom/example/ledgerwalk/ledgerwalk/LockTable$Mode;" } : Jvm.MethodName) method_2_code (1 : Nat) (Option.some (Jvm.ClassFile.FieldType.object "com/example/ledgerwalk/ledgerwalk/LockTable$Mode"))).before args0 about1 = true := code_word (m := ⟨1, 1⟩) (meth := k1m1) (c := k1c1) (by decide +kernel) rfl rfl rfl (by decide +kernel)
set_option maxRecDepth 65536 in
theorem w_c3 : (Jvm.Cond.code ({ cls := "com/example/ledgerwalk/ledgerwalk/LockTable$Mode", name := "covers", desc := "(Lcom/example/ledgerwalk/ledgerwalk/LockTable$Mode;)Z" } : Jvm.MethodName) prog_26_method_6_code (2 : Nat) (Option.some Jvm.ClassFile.FieldType.boolean)).before args0 about1 = true := code_word (m := ⟨6, 0⟩) (meth := k6m0) (c := k6c0) (by decide +kernel) rfl rfl rfl (by decide +kernel)
def codes1 : List Jvm.Cond := [Jvm.Cond.code x code maxLocals ret, Jvm.Cond.code ({ cls := "com/example/ledgerwalk/ledgerwalk/ModeCoversPinLaw", name := "caps", desc := "(I)I" } : Jvm.MethodName) method_3_code (1 : Nat) (Option.some Jvm.ClassFile.FieldType.int), Jvm.Cond.code ({ cls := "com/example/ledgerwalk/ledgerwalk/ModeCoversPinLaw", name := "mode", desc := "(I)Lcom/example/ledgerwalk/ledgerwalk/LockTable$Mode;" } : Jvm.MethodName) method_2_code (1 : Nat) (Option.some (Jvm.ClassFile.FieldType.object "com/example/ledgerwalk/ledgerwalk/LockTable$Mode")), Jvm.Cond.code ({ cls := "com/example/ledgerwalk/ledgerwalk/LockTable$Mode", name := "covers", desc := "(Lcom/example/ledgerwalk/ledgerwalk/LockTable$Mode;)Z" } : Jvm.MethodName) prog_26_method_6_code (2 : Nat) (Option.some Jvm.ClassFile.FieldType.boolean)]
set_option maxRecDepth 65536 in
theorem codes_eq : words1.filter isCode = codes1 := rfl
theorem w_codes : ∀ c ∈ words1.filter isCode, c.before args0 about1 = true := by
  rw [codes_eq]
  intro c hc
  simp only [codes1, List.mem_cons, List.not_mem_nil, or_false] at hc
  rcases hc with rfl | rfl | rfl | rfl
  · exact w_c0
  · exact w_c1
  · exact w_c2
  · exact w_c3
set_option maxRecDepth 65536 in
theorem w_t1 : (words1.take 24).all (fun c => isCode c || c.before args0 about1) = true := by decide +kernel
set_option maxRecDepth 65536 in
theorem w_t2 : (words1.drop 24).all (fun c => isCode c || c.before args0 about1) = true := by decide +kernel
theorem w_tables : (allAtoms (Jvm.Cond.code x code maxLocals ret :: tables_1)).before args0 about1 = true := by
  rw [allAtoms_all]
  show words1.all (fun c => c.before args0 about1) = true
  refine all_split ?_ w_codes
  rw [← List.take_append_drop 24 words1, List.all_append, w_t1, w_t2]
  rfl
set_option maxRecDepth 65536 in
theorem w_case : (Jvm.Cond.and given_1 narrow_1).before args0 about1 = true := by decide +kernel
theorem w_applies : (headSpec (Jvm.Cond.code x code maxLocals ret :: tables_1) room_1).applies x e0.platform about1 = true :=
  (Spec.applies_iff w_frames).mpr ⟨w_running, w_runnable, w_alone, w_named, w_hears, w_ripe, w_room, w_tables⟩
theorem atStart : AtStart classFile x code maxLocals ret World_1 tables_1 room_1 Calls_1 rest_1 Pre_1 launch0 p0 e0 about1 theMethod args0 below0 :=
  ⟨lists_1, trivial, launch0.admits_env _ _ _, launch0.least_env, fairChoices_fair.cas, fairChoices_fair.clock, w_frames, w_args, w_heap, w_applies, trivial, trivial, w_case⟩
end start1
theorem witness_1 : WitnessClaimed_1 := ⟨start1.p0, start1.e0, start1.about1, start1.theMethod, start1.args0, start1.below0, start1.atStart⟩
end Jvm.Pilot.@@N@@
