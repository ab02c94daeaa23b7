import JvmDerived
import JvmDerived.Pilot.@@N@@Statement
import JvmDerived.Pilot.@@N@@Code
set_option linter.unusedVariables false
set_option linter.unusedSimpArgs false
@@BLOCK:NumsL.lean.txt@@
namespace Jvm.Pilot.@@N@@
open Jvm Jvm.ClassFile Sem Op Lib Jvm.Free Jvm.Stand Jvm.LawKit Jvm.RoadKit Bundle Jvm.Pilot.@@N@@.Jvm.D
/-! The walk in the continuation's form: 'Goes' says of a place (state, frame) that from it the body ends as Q says. -/
def Goes (p : Program) (e : Env) (below : List Frame) (s : State) (Q : Option Value → Heap → List Loc → Prop) (k n : Nat) (T : State) (g : JFrame) : Prop :=
  ∃ s₂ o, Steps p.tables e below (T.setTop g) s₂ ∧ s₂.status = .running ∧ Ended s₂ below o ∧ ∃ v L, o = .returned v ∧ Q v s₂.heap L ∧ FrameEnd s o s₂ L k n
section OwnKit
variable {p : Program} {l : Launch} {e : Env} {R : Room} {s : State} {m : MethodId} {args : Array Value} {below : List Frame} {meth : Method} {c : Code} {T T' : State} {locs : List Loc} {cells slots : Nat} {Q : Option Value → Heap → List Loc → Prop} {k n : Nat} {g g' : JFrame}
theorem own_go (f : ∀ t, Steps p.tables e below (T'.setTop g') t → Steps p.tables e below (T.setTop g) t) (h : Goes p e below s Q k n T' g') : Goes p e below s Q k n T g := by
  obtain ⟨a, b, h1, r⟩ := h
  exact ⟨a, b, f _ h1, r⟩
theorem own_tr (f : Steps p.tables e below (T.setTop g) (T'.setTop g')) (h : Goes p e below s Q k n T' g') : Goes p e below s Q k n T g := by
  obtain ⟨a, b, h1, r⟩ := h
  exact ⟨a, b, f.trans h1, r⟩
theorem own_ret (X : Stand p l e R s m args below meth c T locs cells slots) (hx : p.tables.exec = Jvm.exec) {pc : Nat} {Ls : Array Slot} {w : Value} {t : FieldType} {i : Instr} {rest : List Value} (hret : meth.sig.returnType = some t) (hlocks : meth.locks = false) (hn : narrow t w = w)
    (hi : (i = .ireturn ∧ (t = .int ∨ t = .boolean ∨ t = .byte ∨ t = .char ∨ t = .short) ∧ ∃ z, w = .int z) ∨ (i = .lreturn ∧ t = .long ∧ ∃ z, w = .long z) ∨ (i = .dreturn ∧ t = .double ∧ ∃ z, w = .double z) ∨ (i = .freturn ∧ t = .float ∧ ∃ z, w = .float z) ∨ (i = .areturn ∧ t.isReference = true ∧ w.isRef = true))
    (hd : decode c.code pc = .ok (i, 1)) (hQ : Q (some w) T.heap locs) (hc : cells ≤ k) (hs : slots ≤ n) : Goes p e below s Q k n T (mkF m pc Ls (w :: rest)) := by
  obtain ⟨fs, hr, hrun, hended, hW, hsame⟩ := X.leave (v := some w) (fun h => by rw [hret] at h; cases h) hlocks
  exact ⟨_, _, retOut X hx hret hn hi hd hr, hrun, hended, _, _, rfl, hQ, ⟨_, rfl⟩, hW, hsame.mono hc hs⟩
theorem own_retI (X : Stand p l e R s m args below meth c T locs cells slots) (hx : p.tables.exec = Jvm.exec) {pc : Nat} {Ls : Array Slot} {z : Int32} {rest : List Value} (hret : meth.sig.returnType = some .int) (hlocks : meth.locks = false)
    (hd : decode c.code pc = .ok (.ireturn, 1)) (hQ : Q (some (.int z)) T.heap locs) (hc : cells ≤ k) (hs : slots ≤ n) : Goes p e below s Q k n T (mkF m pc Ls (.int z :: rest)) :=
  own_ret X hx hret hlocks rfl (Or.inl ⟨rfl, Or.inl rfl, z, rfl⟩) hd hQ hc hs
theorem own_retZ (X : Stand p l e R s m args below meth c T locs cells slots) (hx : p.tables.exec = Jvm.exec) {pc : Nat} {Ls : Array Slot} {z : Int32} {rest : List Value} (hret : meth.sig.returnType = some .boolean) (hlocks : meth.locks = false) (hz : z = 0 ∨ z = 1)
    (hd : decode c.code pc = .ok (.ireturn, 1)) (hQ : Q (some (.int z)) T.heap locs) (hc : cells ≤ k) (hs : slots ≤ n) : Goes p e below s Q k n T (mkF m pc Ls (.int z :: rest)) :=
  own_ret X hx hret hlocks (by rcases hz with rfl | rfl <;> rfl) (Or.inl ⟨rfl, Or.inr (Or.inl rfl), z, rfl⟩) hd hQ hc hs
theorem own_retJ (X : Stand p l e R s m args below meth c T locs cells slots) (hx : p.tables.exec = Jvm.exec) {pc : Nat} {Ls : Array Slot} {z : Int64} {rest : List Value} (hret : meth.sig.returnType = some .long) (hlocks : meth.locks = false)
    (hd : decode c.code pc = .ok (.lreturn, 1)) (hQ : Q (some (.long z)) T.heap locs) (hc : cells ≤ k) (hs : slots ≤ n) : Goes p e below s Q k n T (mkF m pc Ls (.long z :: rest)) :=
  own_ret X hx hret hlocks rfl (Or.inr (Or.inl ⟨rfl, rfl, z, rfl⟩)) hd hQ hc hs
theorem own_retA (X : Stand p l e R s m args below meth c T locs cells slots) (hx : p.tables.exec = Jvm.exec) {pc : Nat} {Ls : Array Slot} {w : Value} {t : FieldType} {rest : List Value} (hret : meth.sig.returnType = some t) (ht : t.isReference = true) (hlocks : meth.locks = false) (hw : w.isRef = true)
    (hd : decode c.code pc = .ok (.areturn, 1)) (hQ : Q (some w) T.heap locs) (hc : cells ≤ k) (hs : slots ≤ n) : Goes p e below s Q k n T (mkF m pc Ls (w :: rest)) :=
  own_ret X hx hret hlocks (by cases t <;> simp [FieldType.isReference] at ht <;> cases w <;> simp [Value.isRef] at hw <;> rfl) (Or.inr (Or.inr (Or.inr (Or.inr ⟨rfl, ht, hw⟩)))) hd hQ hc hs
theorem own_retV (X : Stand p l e R s m args below meth c T locs cells slots) (hx : p.tables.exec = Jvm.exec) {pc : Nat} {Ls : Array Slot} (hret : meth.sig.returnType = none) (hlocks : meth.locks = false)
    (hd : decode c.code pc = .ok (.return_, 1)) (hQ : Q none T.heap locs) (hc : cells ≤ k) (hs : slots ≤ n) : Goes p e below s Q k n T (mkF m pc Ls []) := by
  obtain ⟨fs, hr, hrun, hended, hW, hsame⟩ := X.leave (v := none) (fun _ => rfl) hlocks
  exact ⟨_, _, X.returnOut hx hret hd hr, hrun, hended, _, _, rfl, hQ, ⟨_, rfl⟩, hW, hsame.mono hc hs⟩
/-- what a callee that writes nothing leaves: its value r, the heap as it was -/
def own_pure (r : Option Value) (h0 : Heap) : Option Value → Heap → List Loc → Prop := fun v h L => v = r ∧ L = [] ∧ h = h0
/-- a callee's contract -/
abbrev Pays (l : Launch) (Z : State) (y : MethodName) (bytes : ByteArray) (maxL : Nat) (ret : Option FieldType) (rm : Room) (as' : Array Value) (h0 : Heap) (Q : Option Value → Heap → List Loc → Prop) : Prop :=
  MetFree l y (head1 [Jvm.Cond.code y bytes maxL ret] rm) (fun a U => a = as' ∧ Z.Warmed39 U.vm ∧ U.heap = h0) (fun _ _ _ _ _ => True) (fun _ U o U' => ∃ v L, o = .returned v ∧ Q v U'.heap L ∧ FrameEnd U o U' L rm.cells rm.slots)
theorem own_callS {Z : State} {a0 : Array Value} {h : Heap} {rm : Room} {W : Nat} {own : String} {index : Nat} {y : MethodName} {bytes : ByteArray} {maxL : Nat} {ret : Option FieldType} {argsL rest : List Value} {r : Option Value}
    (X : Stand p l e R s m args below meth c T locs cells slots) (hx : p.tables.exec = Jvm.exec) (hZ : Z.Warmed39 s.vm) (hown : s.vm.findClass own = some m.cls)
    (wl : (Jvm.Cond.methodLink own index y).before a0 Z = true) (wst : (Jvm.Cond.static y).before a0 Z = true) (wi : (Jvm.Cond.initialized y.cls).before a0 Z = true) (wc : (Jvm.Cond.code y bytes maxL ret).before a0 Z = true)
    (hy : y.cls ≠ "java/lang/invoke/MethodHandle" ∧ y.cls ≠ "java/lang/invoke/VarHandle") (eT : T.heap = h)
    (hM : Pays l Z y bytes maxL ret rm argsL.toArray h (own_pure r h)) (hrc : rm.cells = 0) (hrs : rm.slots = 0) (hcl : cells ≤ R.cells) (hsl : slots ≤ R.slots) (hf : rm.frames + 1 ≤ R.frames) (hl : W + (maxL + 11) + rm.locals ≤ R.locals)
    (hg : g.method = m) (hsize : g.locals.size = c.maxLocals) (hlen : ∀ sig, parseMethodDescriptor y.desc = some sig → argsL.length = sig.parameters.length)
    (hstack : g.stack = argsL.reverse ++ rest) (hW : 2 * g.monitorRoom + (rest.map fun v => v.category).sum ≤ W) (hdg : decode c.code g.pc = .ok (.invokestatic index, 3)) :
    ∃ T', Stand p l e R s m args below meth c T' locs cells slots ∧ T'.heap = h ∧ ∀ t, Steps p.tables e below (T'.setTop { g with pc := g.pc + 3, stack := r.toList ++ rest }) t → Steps p.tables e below (T.setTop g) t := by
  obtain ⟨v, vm₁, ⟨T1, L1, k1, n1⟩, hw1, X1, ⟨Lc, hQ, l1, y1, z1⟩, st⟩ := Jvm.LawKit.callS X hx (y := y) hown (mvT hZ wl) (mvT hZ wst) (mvT hZ wi) (mvT hZ wc) hy (backOf (W := W) hM hZ wc wi hf hl) hg hsize hlen hstack hW hdg (fun _ _ => ⟨rfl, eT, by rw [hrc]; exact hcl, by rw [hrs]; exact hsl⟩)
  dsimp only [Pt.U, Pt.locs, Pt.cells, Pt.slots] at X1 l1 y1 z1 st hQ
  obtain ⟨rfl, rfl, hh⟩ := hQ
  subst l1 y1 z1
  rw [List.append_nil, hrc, hrs, Nat.add_zero, Nat.add_zero] at X1
  exact ⟨T1, X1, hh, st⟩
theorem own_callV {Z : State} {a0 : Array Value} {h : Heap} {rm : Room} {W : Nat} {own C : String} {index : Nat} {y z : MethodName} {bytes : ByteArray} {maxL : Nat} {ret : Option FieldType} {argsL rest : List Value} {r : Option Value} {b : Addr}
    (X : Stand p l e R s m args below meth c T locs cells slots) (hx : p.tables.exec = Jvm.exec) (hZ : Z.Warmed39 s.vm) (hown : s.vm.findClass own = some m.cls)
    (wl : (Jvm.Cond.methodLink own index y).before a0 Z = true) (wd : (Jvm.Cond.declares y).before a0 Z = true) (wsel : (Jvm.Cond.selects C y z).before a0 Z = true) (hnf : NotFace s y) (win : (Jvm.Cond.instanceMethod z).before a0 Z = true) (wi : (Jvm.Cond.initialized z.cls).before a0 Z = true) (wc : (Jvm.Cond.code z bytes maxL ret).before a0 Z = true)
    (hy : y.cls ≠ "java/lang/invoke/MethodHandle" ∧ y.cls ≠ "java/lang/invoke/VarHandle") (eT : T.heap = h) (E : Exa Z h b C)
    (hM : Pays l Z z bytes maxL ret rm (.ref b :: argsL).toArray h (own_pure r h)) (hrc : rm.cells = 0) (hrs : rm.slots = 0) (hcl : cells ≤ R.cells) (hsl : slots ≤ R.slots) (hf : rm.frames + 1 ≤ R.frames) (hl : W + (maxL + 11) + rm.locals ≤ R.locals)
    (hg : g.method = m) (hsize : g.locals.size = c.maxLocals) (hlen : ∀ sig, parseMethodDescriptor y.desc = some sig → argsL.length = sig.parameters.length)
    (hstack : g.stack = argsL.reverse ++ .ref b :: rest) (hW : 2 * g.monitorRoom + (rest.map fun v => v.category).sum ≤ W) (hdg : decode c.code g.pc = .ok (.invokevirtual index, 3)) :
    ∃ T', Stand p l e R s m args below meth c T' locs cells slots ∧ T'.heap = h ∧ ∀ t, Steps p.tables e below (T'.setTop { g with pc := g.pc + 3, stack := r.toList ++ rest }) t → Steps p.tables e below (T.setTop g) t := by
  obtain ⟨cq, kq, qa, qb, qc⟩ := isOf hZ eT E
  obtain ⟨v, vm₁, ⟨T1, L1, k1, n1⟩, hw1, X1, ⟨Lc, hQ, l1, y1, z1⟩, st⟩ := X.virtualBack hx (y := y) (z := z) hown (mvT hZ wl) (mvT hZ wd) hnf (mvT hZ wsel) (mvT hZ win) hy (backOf (W := W) hM hZ wc wi hf hl) qa qc hg hsize (Steps.refl _) hlen hstack hW hdg (fun _ _ => ⟨rfl, eT, by rw [hrc]; exact hcl, by rw [hrs]; exact hsl⟩)
  dsimp only [Pt.U, Pt.locs, Pt.cells, Pt.slots] at X1 l1 y1 z1 st hQ
  obtain ⟨rfl, rfl, hh⟩ := hQ
  subst l1 y1 z1
  rw [List.append_nil, hrc, hrs, Nat.add_zero, Nat.add_zero] at X1
  exact ⟨T1, X1, hh, fun t k => st.trans k⟩
/-- what a law that makes objects leaves: true, and nothing old written -/
def own_one (n0 : Nat) : Option Value → Heap → List Loc → Prop := fun v h L => v = some (.int 1) ∧ Fr n0 L
theorem own_callI {Z : State} {a0 : Array Value} {h : Heap} {rm : Room} {W : Nat} {own : String} {index : Nat} {y : MethodName} {bytes : ByteArray} {maxL : Nat} {argsL rest : List Value} {a : Addr}
    (X : Stand p l e R s m args below meth c T locs cells slots) (hx : p.tables.exec = Jvm.exec) (hZ : Z.Warmed39 s.vm) (hown : s.vm.findClass own = some m.cls) (hy1 : y.name = "<init>")
    (wl : (Jvm.Cond.methodLink own index y).before a0 Z = true) (win : (Jvm.Cond.instanceMethod y).before a0 Z = true) (wi : (Jvm.Cond.initialized y.cls).before a0 Z = true) (wc : (Jvm.Cond.code y bytes maxL none).before a0 Z = true)
    (hy : y.cls ≠ "java/lang/invoke/MethodHandle" ∧ y.cls ≠ "java/lang/invoke/VarHandle") (eT : T.heap = h)
    (hM : Pays l Z y bytes maxL none rm (.ref a :: argsL).toArray h (own_pure none h)) (hrc : rm.cells = 0) (hrs : rm.slots = 0) (hcl : cells ≤ R.cells) (hsl : slots ≤ R.slots) (hf : rm.frames + 1 ≤ R.frames) (hl : W + (maxL + 11) + rm.locals ≤ R.locals)
    (hg : g.method = m) (hsize : g.locals.size = c.maxLocals) (hlen : ∀ sig, parseMethodDescriptor y.desc = some sig → argsL.length = sig.parameters.length)
    (hstack : g.stack = argsL.reverse ++ .ref a :: rest) (hW : 2 * g.monitorRoom + (rest.map fun v => v.category).sum ≤ W) (hdg : decode c.code g.pc = .ok (.invokespecial index, 3)) :
    ∃ T', Stand p l e R s m args below meth c T' locs cells slots ∧ T'.heap = h ∧ ∀ t, Steps p.tables e below (T'.setTop { g with pc := g.pc + 3, stack := rest }) t → Steps p.tables e below (T.setTop g) t := by
  obtain ⟨v, vm₁, ⟨T1, L1, k1, n1⟩, hw1, X1, ⟨Lc, hQ, l1, y1, z1⟩, st⟩ := X.specialBack hx (y := y) hy1 hown (mvT hZ wl) (mvT hZ win) (mvT hZ wc) hy (backOf (W := W) hM hZ wc wi hf hl) hg hsize (Steps.refl _) hlen hstack hW hdg (fun _ _ => ⟨rfl, eT, by rw [hrc]; exact hcl, by rw [hrs]; exact hsl⟩)
  dsimp only [Pt.U, Pt.locs, Pt.cells, Pt.slots] at X1 l1 y1 z1 st hQ
  obtain ⟨rfl, rfl, hh⟩ := hQ
  subst l1 y1 z1
  rw [List.append_nil, hrc, hrs, Nat.add_zero, Nat.add_zero] at X1
  exact ⟨T1, X1, hh, fun t k => st.trans k⟩
theorem own_eqi {args : Array Value} {first s : State} {o : Option Outcome} {idx : List Nat} {t : Term} {k : Int32} (h : (Jvm.Cond.eq t (Term.int k)).value args first o s idx = some true) : t.eval args first o idx s = some (.int k) := by
  obtain ⟨x, y, e1, e2, k1, k2⟩ := cmp_v (Or.inl h)
  rw [Term.int_eval] at e2
  cases e2
  obtain ⟨z, rfl⟩ := k2
  have h2 : (Jvm.Cond.eq t (Term.int k)).value args first o s idx = some (decide (z = k)) := by simp [Cond.value, e1, Term.int_eval]
  rw [gotT h2 h] at e1
  exact e1
theorem own_ord {args : Array Value} {s : State} {t : Term} {x : Addr} {C n : String} {k : Int32} (ev : t.eval args s none [] s = some (.ref x)) (h : (Jvm.Cond.eq (Term.field t C n "I") (Term.int k)).value args s none s [] = some true) : Fld s s.heap x C n "I" (.int k) :=
  Fld.start ((fld_at ev).symm.trans (own_eqi h))
theorem own_sta_keep {Z : State} {h h' : Heap} {C n d D : String} {v : Value} {a : Addr} (F : Sta Z h C n d v) (K : Keep h h' [a]) (E : Exa Z h a D) : Sta Z h' C n d v := by
  obtain ⟨cf, i, k, f, st, cell, h1, h2, h3, h4, h5, h6, h7⟩ := F
  refine ⟨cf, i, k, f, st, cell, h1, h2, h3, h4, K.2.1 st cell h5 (fun q => ?_), h6, h7⟩
  obtain ⟨cell', k', g1, -, -, g4, -⟩ := E
  cases List.mem_singleton.mp q
  rw [h5] at g1
  cases g1
  rw [h6] at g4
  cases g4
end OwnKit
theorem ef_sd (m : MethodId) (x0 : Int64) (x1 : Int32) : entryFrame m #[(.long x0), (.int x1)] 5 = mkF m 0 #[.val (.long x0), .second, .val (.int x1), .unset, .unset] [] := by first | (simp [entryFrame, mkF, argsToLocals, Value.category]; done) | rfl
theorem pn_0 : plainName "com/example/folioscope/folioscope/iiif/SizeLimitsAdmitsPinLaw" = true := by first | (simp [plainName, overriddenIn]; done) | decide +kernel
theorem d_sd_0 : decode method_2_code 0 = .ok (.lload_n 0, 1) := by decide +kernel
theorem d_sd_1 : decode method_2_code 1 = .ok (.ldc2_w 7, 3) := by decide +kernel
theorem d_sd_4 : decode method_2_code 4 = .ok (.land, 1) := by decide +kernel
theorem d_sd_5 : decode method_2_code 5 = .ok (.lstore_n 3, 1) := by decide +kernel
theorem d_sd_6 : decode method_2_code 6 = .ok (.iload_n 2, 1) := by decide +kernel
theorem d_sd_7 : decode method_2_code 7 = .ok (.iconst 1, 1) := by decide +kernel
theorem d_sd_8 : decode method_2_code 8 = .ok (.iand, 1) := by decide +kernel
theorem d_sd_9 : decode method_2_code 9 = .ok (.ifCond .eq 9, 3) := by decide +kernel
theorem d_sd_18 : decode method_2_code 18 = .ok (.lload_n 3, 1) := by decide +kernel
theorem d_sd_19 : decode method_2_code 19 = .ok (.ldc2_w 11, 3) := by decide +kernel
theorem d_sd_22 : decode method_2_code 22 = .ok (.lrem, 1) := by decide +kernel
theorem d_sd_23 : decode method_2_code 23 = .ok (.lreturn, 1) := by decide +kernel
theorem d_sd_12 : decode method_2_code 12 = .ok (.lload_n 3, 1) := by decide +kernel
theorem d_sd_13 : decode method_2_code 13 = .ok (.ldc2_w 9, 3) := by decide +kernel
theorem d_sd_16 : decode method_2_code 16 = .ok (.land, 1) := by decide +kernel
theorem d_sd_17 : decode method_2_code 17 = .ok (.lreturn, 1) := by decide +kernel
theorem ef_ad (m : MethodId) (x0 : Int64) (x1 : Int64) : entryFrame m #[(.long x0), (.long x1)] 4 = mkF m 0 #[.val (.long x0), .second, .val (.long x1), .second] [] := by first | (simp [entryFrame, mkF, argsToLocals, Value.category]; done) | rfl
theorem pn_1 : plainName "com/example/folioscope/folioscope/iiif/SizeLimits" = true := by first | (simp [plainName, overriddenIn]; done) | decide +kernel
theorem d_ad_0 : decode prog_34_method_2_code 0 = .ok (.lload_n 0, 1) := by decide +kernel
theorem d_ad_1 : decode prog_34_method_2_code 1 = .ok (.ldc2_w 11, 3) := by decide +kernel
theorem d_ad_4 : decode prog_34_method_2_code 4 = .ok (.lcmp, 1) := by decide +kernel
theorem d_ad_5 : decode prog_34_method_2_code 5 = .ok (.ifCond .gt 25, 3) := by decide +kernel
theorem d_ad_30 : decode prog_34_method_2_code 30 = .ok (.iconst 0, 1) := by decide +kernel
theorem d_ad_31 : decode prog_34_method_2_code 31 = .ok (.ireturn, 1) := by decide +kernel
theorem d_ad_8 : decode prog_34_method_2_code 8 = .ok (.lload_n 2, 1) := by decide +kernel
theorem d_ad_9 : decode prog_34_method_2_code 9 = .ok (.ldc2_w 11, 3) := by decide +kernel
theorem d_ad_12 : decode prog_34_method_2_code 12 = .ok (.lcmp, 1) := by decide +kernel
theorem d_ad_13 : decode prog_34_method_2_code 13 = .ok (.ifCond .gt 17, 3) := by decide +kernel
theorem d_ad_16 : decode prog_34_method_2_code 16 = .ok (.lload_n 0, 1) := by decide +kernel
theorem d_ad_17 : decode prog_34_method_2_code 17 = .ok (.lload_n 2, 1) := by decide +kernel
theorem d_ad_18 : decode prog_34_method_2_code 18 = .ok (.lmul, 1) := by decide +kernel
theorem d_ad_19 : decode prog_34_method_2_code 19 = .ok (.ldc2_w 13, 3) := by decide +kernel
theorem d_ad_22 : decode prog_34_method_2_code 22 = .ok (.lcmp, 1) := by decide +kernel
theorem d_ad_23 : decode prog_34_method_2_code 23 = .ok (.ifCond .gt 7, 3) := by decide +kernel
theorem d_ad_26 : decode prog_34_method_2_code 26 = .ok (.iconst 1, 1) := by decide +kernel
theorem d_ad_27 : decode prog_34_method_2_code 27 = .ok (.goto 4, 3) := by decide +kernel
theorem ef_ex (m : MethodId) (x0 : Int64) (x1 : Int64) : entryFrame m #[(.long x0), (.long x1)] 4 = mkF m 0 #[.val (.long x0), .second, .val (.long x1), .second] [] := by first | (simp [entryFrame, mkF, argsToLocals, Value.category]; done) | rfl
theorem d_ex_0 : decode method_3_code 0 = .ok (.lload_n 0, 1) := by decide +kernel
theorem d_ex_1 : decode method_3_code 1 = .ok (.ldc2_w 13, 3) := by decide +kernel
theorem d_ex_4 : decode method_3_code 4 = .ok (.lcmp, 1) := by decide +kernel
theorem d_ex_5 : decode method_3_code 5 = .ok (.ifCond .le 5, 3) := by decide +kernel
theorem d_ex_8 : decode method_3_code 8 = .ok (.iconst 0, 1) := by decide +kernel
theorem d_ex_9 : decode method_3_code 9 = .ok (.ireturn, 1) := by decide +kernel
theorem d_ex_10 : decode method_3_code 10 = .ok (.lload_n 2, 1) := by decide +kernel
theorem d_ex_11 : decode method_3_code 11 = .ok (.ldc2_w 13, 3) := by decide +kernel
theorem d_ex_14 : decode method_3_code 14 = .ok (.lcmp, 1) := by decide +kernel
theorem d_ex_15 : decode method_3_code 15 = .ok (.ifCond .le 5, 3) := by decide +kernel
theorem d_ex_18 : decode method_3_code 18 = .ok (.iconst 0, 1) := by decide +kernel
theorem d_ex_19 : decode method_3_code 19 = .ok (.ireturn, 1) := by decide +kernel
theorem d_ex_20 : decode method_3_code 20 = .ok (.lload_n 0, 1) := by decide +kernel
theorem d_ex_21 : decode method_3_code 21 = .ok (.lconst 0, 1) := by decide +kernel
theorem d_ex_22 : decode method_3_code 22 = .ok (.lcmp, 1) := by decide +kernel
theorem d_ex_23 : decode method_3_code 23 = .ok (.ifCond .ne 5, 3) := by decide +kernel
theorem d_ex_26 : decode method_3_code 26 = .ok (.iconst 1, 1) := by decide +kernel
theorem d_ex_27 : decode method_3_code 27 = .ok (.ireturn, 1) := by decide +kernel
theorem d_ex_28 : decode method_3_code 28 = .ok (.lload_n 2, 1) := by decide +kernel
theorem d_ex_29 : decode method_3_code 29 = .ok (.ldc2_w 15, 3) := by decide +kernel
theorem d_ex_32 : decode method_3_code 32 = .ok (.lload_n 0, 1) := by decide +kernel
theorem d_ex_33 : decode method_3_code 33 = .ok (.ldiv, 1) := by decide +kernel
theorem d_ex_34 : decode method_3_code 34 = .ok (.lcmp, 1) := by decide +kernel
theorem d_ex_35 : decode method_3_code 35 = .ok (.ifCond .gt 7, 3) := by decide +kernel
theorem d_ex_42 : decode method_3_code 42 = .ok (.iconst 0, 1) := by decide +kernel
theorem d_ex_43 : decode method_3_code 43 = .ok (.ireturn, 1) := by decide +kernel
theorem d_ex_38 : decode method_3_code 38 = .ok (.iconst 1, 1) := by decide +kernel
theorem d_ex_39 : decode method_3_code 39 = .ok (.goto 4, 3) := by decide +kernel
theorem ef_law (m : MethodId) (x0 : Int64) (x1 : Int64) (x2 : Int32) : entryFrame m #[(.long x0), (.long x1), (.int x2)] maxLocals = mkF m 0 #[.val (.long x0), .second, .val (.long x1), .second, .val (.int x2), .unset, .unset, .unset, .unset] [] := by first | (simp [entryFrame, mkF, argsToLocals, Value.category, maxLocals]; done) | rfl
theorem pd_0 : parseMethodDescriptor "(JI)J" = some ⟨[.long, .int], some .long⟩ := by decide +kernel
theorem pd_1 : parseMethodDescriptor "(JJ)Z" = some ⟨[.long, .long], some .boolean⟩ := by decide +kernel
def own_side (x : Int64) (mode : Int32) : Int64 := if (mode &&& (1 : Int32)) = (0 : Int32) then (x &&& (9223372036854775807 : Int64)) - (x &&& (9223372036854775807 : Int64)) / (2147483649 : Int64) * (2147483649 : Int64) else (x &&& (9223372036854775807 : Int64)) &&& (131071 : Int64)
def own_adm (w h : Int64) : Int32 := if (65500 : Int64) < w then 0 else if (65500 : Int64) < h then 0 else if (16777216 : Int64) < w * h then 0 else 1
def own_exp (w h : Int64) : Int32 := if (65500 : Int64) < w then 0 else if (65500 : Int64) < h then 0 else if w = (0 : Int64) then 1 else if (16777216 : Int64) / w < h then 0 else 1
set_option maxRecDepth 65536 in
set_option maxHeartbeats 40000000 in
theorem rm_sd (l : Launch) (Z : State) (a0 : Array Value) (hw : ∀ d ∈ tables_1, d.before a0 Z = true) (x : Int64) (mode : Int32) (h0 : Heap)  :
    Pays l Z (⟨"com/example/folioscope/folioscope/iiif/SizeLimitsAdmitsPinLaw", "side", "(JI)J"⟩ : MethodName) method_2_code 5 (some .long) ({ frames := 0, cells := 0, slots := 0, locals := 0 } : Room) #[(.long x), (.int mode)] h0 (own_pure (some (.long (own_side x mode))) h0) := by
  refine MetFree.of_bodySF (plainFor_of_name pn_0) hisR ?_
  intro p e s m args below meth c s₁ Bd hml0 hP hK
  obtain ⟨rfl, hZ, hh⟩ := hP
  have hx := Bd.exec
  have hby := Bd.bytes
  have hml : c.maxLocals = 5 := hml0
  have hown : s.vm.findClass "com/example/folioscope/folioscope/iiif/SizeLimitsAdmitsPinLaw" = some m.cls := findClass_of_methodNamed Bd.named
  have hnm := (name_of_methodNamed Bd.named Bd.method).1
  have hlk : meth.locks = false := BodyLoose.notSynchronized Bd
  have X0 : Stand p l e ({ frames := 0, cells := 0, slots := 0, locals := 0 } : Room) s m #[(.long x), (.int mode)] below meth c s₁ [] 0 0 := Stand.of_body Bd
  have e0 : s₁.heap = h0 := by rw [← hh, Bd.state]; rfl
  show Goes p e below s (own_pure (some (.long (own_side x mode))) h0) ({ frames := 0, cells := 0, slots := 0, locals := 0 } : Room).cells ({ frames := 0, cells := 0, slots := 0, locals := 0 } : Room).slots s₁ (entryFrame m #[(.long x), (.int mode)] 5)
  rw [ef_sd m x mode]
  refine own_go (T' := s₁) (g' := (mkF m 1 #[.val (.long x), .second, .val (.int mode), .unset, .unset] [(.long x)])) (fun t_ K => XS.lloadN X0.here hx rfl (hb hby d_sd_0) rfl K) ?_
  refine own_go (T' := s₁) (g' := (mkF m 4 #[.val (.long x), .second, .val (.int mode), .unset, .unset] [(.long (9223372036854775807 : Int64)), (.long x)])) (fun t_ K => X0.ldc2Long hx hown (mvT hZ (hw _ (List.mem_of_getElem? (i := 4) rfl))) (g := (mkF m 1 #[.val (.long x), .second, .val (.int mode), .unset, .unset] [(.long x)])) rfl (hb hby d_sd_1) _ K) ?_
  refine own_go (T' := s₁) (g' := (mkF m 5 #[.val (.long x), .second, .val (.int mode), .unset, .unset] [(.long (x &&& (9223372036854775807 : Int64)))])) (fun t_ K => XT.land X0.here hx rfl (hb hby d_sd_4) rfl K) ?_
  refine own_go (T' := s₁) (g' := (mkF m 6 #[.val (.long x), .second, .val (.int mode), .val (.long (x &&& (9223372036854775807 : Int64))), .second] [])) (fun t_ K => XS.lstoreN X0.here hx rfl (hb hby d_sd_5) rfl (l' := #[.val (.long x), .second, .val (.int mode), .val (.long (x &&& (9223372036854775807 : Int64))), .second]) rfl K) ?_
  refine own_go (T' := s₁) (g' := (mkF m 7 #[.val (.long x), .second, .val (.int mode), .val (.long (x &&& (9223372036854775807 : Int64))), .second] [(.int mode)])) (fun t_ K => XS.iloadN X0.here hx rfl (hb hby d_sd_6) rfl K) ?_
  refine own_go (T' := s₁) (g' := (mkF m 8 #[.val (.long x), .second, .val (.int mode), .val (.long (x &&& (9223372036854775807 : Int64))), .second] [(.int (1 : Int32)), (.int mode)])) (fun t_ K => XS.iconst X0.here hx rfl (hb hby d_sd_7) K) ?_
  refine own_go (T' := s₁) (g' := (mkF m 9 #[.val (.long x), .second, .val (.int mode), .val (.long (x &&& (9223372036854775807 : Int64))), .second] [(.int (mode &&& (1 : Int32)))])) (fun t_ K => XS.iand X0.here hx rfl (hb hby d_sd_8) rfl K) ?_
  by_cases c9 : (mode &&& (1 : Int32)) = (0 : Int32)
  · refine own_go (T' := s₁) (g' := (mkF m 18 #[.val (.long x), .second, .val (.int mode), .val (.long (x &&& (9223372036854775807 : Int64))), .second] [])) (fun t_ K => XS.ifYes X0.here hx rfl (pc0 := 9) (pc' := 18) rfl (hb hby d_sd_9) rfl ((if0 _ _).trans (teq c9).1) (by decide) (by decide) K) ?_
    refine own_go (T' := s₁) (g' := (mkF m 19 #[.val (.long x), .second, .val (.int mode), .val (.long (x &&& (9223372036854775807 : Int64))), .second] [(.long (x &&& (9223372036854775807 : Int64)))])) (fun t_ K => XS.lloadN X0.here hx rfl (hb hby d_sd_18) rfl K) ?_
    refine own_go (T' := s₁) (g' := (mkF m 22 #[.val (.long x), .second, .val (.int mode), .val (.long (x &&& (9223372036854775807 : Int64))), .second] [(.long (2147483649 : Int64)), (.long (x &&& (9223372036854775807 : Int64)))])) (fun t_ K => X0.ldc2Long hx hown (mvT hZ (hw _ (List.mem_of_getElem? (i := 5) rfl))) (g := (mkF m 19 #[.val (.long x), .second, .val (.int mode), .val (.long (x &&& (9223372036854775807 : Int64))), .second] [(.long (x &&& (9223372036854775807 : Int64)))])) rfl (hb hby d_sd_19) _ K) ?_
    refine own_go (T' := s₁) (g' := (mkF m 23 #[.val (.long x), .second, .val (.int mode), .val (.long (x &&& (9223372036854775807 : Int64))), .second] [(.long ((x &&& (9223372036854775807 : Int64)) - (x &&& (9223372036854775807 : Int64)) / (2147483649 : Int64) * (2147483649 : Int64)))])) (fun t_ K => XT.lrem X0.here hx rfl (hb hby d_sd_22) rfl (by decide) K) ?_
    exact own_retJ X0 hx Bd.returns hlk (hb hby d_sd_23) ⟨by rw [own_side, if_pos c9], rfl, e0⟩ (by decide) (by decide)
  · refine own_go (T' := s₁) (g' := (mkF m 12 #[.val (.long x), .second, .val (.int mode), .val (.long (x &&& (9223372036854775807 : Int64))), .second] [])) (fun t_ K => XS.ifNo X0.here hx rfl (hb hby d_sd_9) rfl ((if0 _ _).trans (feq c9).1) K) ?_
    refine own_go (T' := s₁) (g' := (mkF m 13 #[.val (.long x), .second, .val (.int mode), .val (.long (x &&& (9223372036854775807 : Int64))), .second] [(.long (x &&& (9223372036854775807 : Int64)))])) (fun t_ K => XS.lloadN X0.here hx rfl (hb hby d_sd_12) rfl K) ?_
    refine own_go (T' := s₁) (g' := (mkF m 16 #[.val (.long x), .second, .val (.int mode), .val (.long (x &&& (9223372036854775807 : Int64))), .second] [(.long (131071 : Int64)), (.long (x &&& (9223372036854775807 : Int64)))])) (fun t_ K => X0.ldc2Long hx hown (mvT hZ (hw _ (List.mem_of_getElem? (i := 17) rfl))) (g := (mkF m 13 #[.val (.long x), .second, .val (.int mode), .val (.long (x &&& (9223372036854775807 : Int64))), .second] [(.long (x &&& (9223372036854775807 : Int64)))])) rfl (hb hby d_sd_13) _ K) ?_
    refine own_go (T' := s₁) (g' := (mkF m 17 #[.val (.long x), .second, .val (.int mode), .val (.long (x &&& (9223372036854775807 : Int64))), .second] [(.long ((x &&& (9223372036854775807 : Int64)) &&& (131071 : Int64)))])) (fun t_ K => XT.land X0.here hx rfl (hb hby d_sd_16) rfl K) ?_
    exact own_retJ X0 hx Bd.returns hlk (hb hby d_sd_17) ⟨by rw [own_side, if_neg c9], rfl, e0⟩ (by decide) (by decide)
set_option maxRecDepth 65536 in
set_option maxHeartbeats 40000000 in
theorem rm_ad (l : Launch) (Z : State) (a0 : Array Value) (hw : ∀ d ∈ tables_1, d.before a0 Z = true) (w h : Int64) (h0 : Heap)  :
    Pays l Z (⟨"com/example/folioscope/folioscope/iiif/SizeLimits", "admits", "(JJ)Z"⟩ : MethodName) prog_34_method_2_code 4 (some .boolean) ({ frames := 0, cells := 0, slots := 0, locals := 0 } : Room) #[(.long w), (.long h)] h0 (own_pure (some (.int (own_adm w h))) h0) := by
  refine MetFree.of_bodySF (plainFor_of_name pn_1) hisR ?_
  intro p e s m args below meth c s₁ Bd hml0 hP hK
  obtain ⟨rfl, hZ, hh⟩ := hP
  have hx := Bd.exec
  have hby := Bd.bytes
  have hml : c.maxLocals = 4 := hml0
  have hown : s.vm.findClass "com/example/folioscope/folioscope/iiif/SizeLimits" = some m.cls := findClass_of_methodNamed Bd.named
  have hnm := (name_of_methodNamed Bd.named Bd.method).1
  have hlk : meth.locks = false := BodyLoose.notSynchronized Bd
  have X0 : Stand p l e ({ frames := 0, cells := 0, slots := 0, locals := 0 } : Room) s m #[(.long w), (.long h)] below meth c s₁ [] 0 0 := Stand.of_body Bd
  have e0 : s₁.heap = h0 := by rw [← hh, Bd.state]; rfl
  show Goes p e below s (own_pure (some (.int (own_adm w h))) h0) ({ frames := 0, cells := 0, slots := 0, locals := 0 } : Room).cells ({ frames := 0, cells := 0, slots := 0, locals := 0 } : Room).slots s₁ (entryFrame m #[(.long w), (.long h)] 4)
  rw [ef_ad m w h]
  refine own_go (T' := s₁) (g' := (mkF m 1 #[.val (.long w), .second, .val (.long h), .second] [(.long w)])) (fun t_ K => XS.lloadN X0.here hx rfl (hb hby d_ad_0) rfl K) ?_
  refine own_go (T' := s₁) (g' := (mkF m 4 #[.val (.long w), .second, .val (.long h), .second] [(.long (65500 : Int64)), (.long w)])) (fun t_ K => X0.ldc2Long hx hown (mvT hZ (hw _ (List.mem_of_getElem? (i := 10) rfl))) (g := (mkF m 1 #[.val (.long w), .second, .val (.long h), .second] [(.long w)])) rfl (hb hby d_ad_1) _ K) ?_
  refine own_go (T' := s₁) (g' := (mkF m 5 #[.val (.long w), .second, .val (.long h), .second] [(.int (lcmpW w (65500 : Int64)))])) (fun t_ K => XS.lcmp X0.here hx rfl (hb hby d_ad_4) rfl K) ?_
  by_cases c5 : (65500 : Int64) < w
  · refine own_go (T' := s₁) (g' := (mkF m 30 #[.val (.long w), .second, .val (.long h), .second] [])) (fun t_ K => XS.ifYes X0.here hx rfl (pc0 := 5) (pc' := 30) rfl (hb hby d_ad_5) rfl ((if0 _ _).trans (tlt ((lw_gt w (65500 : Int64)).mpr c5)).2.2.1) (by decide) (by decide) K) ?_
    refine own_go (T' := s₁) (g' := (mkF m 31 #[.val (.long w), .second, .val (.long h), .second] [(.int (0 : Int32))])) (fun t_ K => XS.iconst X0.here hx rfl (hb hby d_ad_30) K) ?_
    exact own_retZ X0 hx Bd.returns hlk (Or.inl rfl) (hb hby d_ad_31) ⟨by rw [own_adm, if_pos c5], rfl, e0⟩ (by decide) (by decide)
  · refine own_go (T' := s₁) (g' := (mkF m 8 #[.val (.long w), .second, .val (.long h), .second] [])) (fun t_ K => XS.ifNo X0.here hx rfl (hb hby d_ad_5) rfl ((if0 _ _).trans (flt (fun q => c5 ((lw_gt w (65500 : Int64)).mp q))).2.2.1) K) ?_
    refine own_go (T' := s₁) (g' := (mkF m 9 #[.val (.long w), .second, .val (.long h), .second] [(.long h)])) (fun t_ K => XS.lloadN X0.here hx rfl (hb hby d_ad_8) rfl K) ?_
    refine own_go (T' := s₁) (g' := (mkF m 12 #[.val (.long w), .second, .val (.long h), .second] [(.long (65500 : Int64)), (.long h)])) (fun t_ K => X0.ldc2Long hx hown (mvT hZ (hw _ (List.mem_of_getElem? (i := 10) rfl))) (g := (mkF m 9 #[.val (.long w), .second, .val (.long h), .second] [(.long h)])) rfl (hb hby d_ad_9) _ K) ?_
    refine own_go (T' := s₁) (g' := (mkF m 13 #[.val (.long w), .second, .val (.long h), .second] [(.int (lcmpW h (65500 : Int64)))])) (fun t_ K => XS.lcmp X0.here hx rfl (hb hby d_ad_12) rfl K) ?_
    by_cases c13 : (65500 : Int64) < h
    · refine own_go (T' := s₁) (g' := (mkF m 30 #[.val (.long w), .second, .val (.long h), .second] [])) (fun t_ K => XS.ifYes X0.here hx rfl (pc0 := 13) (pc' := 30) rfl (hb hby d_ad_13) rfl ((if0 _ _).trans (tlt ((lw_gt h (65500 : Int64)).mpr c13)).2.2.1) (by decide) (by decide) K) ?_
      refine own_go (T' := s₁) (g' := (mkF m 31 #[.val (.long w), .second, .val (.long h), .second] [(.int (0 : Int32))])) (fun t_ K => XS.iconst X0.here hx rfl (hb hby d_ad_30) K) ?_
      exact own_retZ X0 hx Bd.returns hlk (Or.inl rfl) (hb hby d_ad_31) ⟨by rw [own_adm, if_neg c5, if_pos c13], rfl, e0⟩ (by decide) (by decide)
    · refine own_go (T' := s₁) (g' := (mkF m 16 #[.val (.long w), .second, .val (.long h), .second] [])) (fun t_ K => XS.ifNo X0.here hx rfl (hb hby d_ad_13) rfl ((if0 _ _).trans (flt (fun q => c13 ((lw_gt h (65500 : Int64)).mp q))).2.2.1) K) ?_
      refine own_go (T' := s₁) (g' := (mkF m 17 #[.val (.long w), .second, .val (.long h), .second] [(.long w)])) (fun t_ K => XS.lloadN X0.here hx rfl (hb hby d_ad_16) rfl K) ?_
      refine own_go (T' := s₁) (g' := (mkF m 18 #[.val (.long w), .second, .val (.long h), .second] [(.long h), (.long w)])) (fun t_ K => XS.lloadN X0.here hx rfl (hb hby d_ad_17) rfl K) ?_
      refine own_go (T' := s₁) (g' := (mkF m 19 #[.val (.long w), .second, .val (.long h), .second] [(.long (w * h))])) (fun t_ K => XT.lmul X0.here hx rfl (hb hby d_ad_18) rfl K) ?_
      refine own_go (T' := s₁) (g' := (mkF m 22 #[.val (.long w), .second, .val (.long h), .second] [(.long (16777216 : Int64)), (.long (w * h))])) (fun t_ K => X0.ldc2Long hx hown (mvT hZ (hw _ (List.mem_of_getElem? (i := 11) rfl))) (g := (mkF m 19 #[.val (.long w), .second, .val (.long h), .second] [(.long (w * h))])) rfl (hb hby d_ad_19) _ K) ?_
      refine own_go (T' := s₁) (g' := (mkF m 23 #[.val (.long w), .second, .val (.long h), .second] [(.int (lcmpW (w * h) (16777216 : Int64)))])) (fun t_ K => XS.lcmp X0.here hx rfl (hb hby d_ad_22) rfl K) ?_
      by_cases c23 : (16777216 : Int64) < (w * h)
      · refine own_go (T' := s₁) (g' := (mkF m 30 #[.val (.long w), .second, .val (.long h), .second] [])) (fun t_ K => XS.ifYes X0.here hx rfl (pc0 := 23) (pc' := 30) rfl (hb hby d_ad_23) rfl ((if0 _ _).trans (tlt ((lw_gt (w * h) (16777216 : Int64)).mpr c23)).2.2.1) (by decide) (by decide) K) ?_
        refine own_go (T' := s₁) (g' := (mkF m 31 #[.val (.long w), .second, .val (.long h), .second] [(.int (0 : Int32))])) (fun t_ K => XS.iconst X0.here hx rfl (hb hby d_ad_30) K) ?_
        exact own_retZ X0 hx Bd.returns hlk (Or.inl rfl) (hb hby d_ad_31) ⟨by rw [own_adm, if_neg c5, if_neg c13, if_pos c23], rfl, e0⟩ (by decide) (by decide)
      · refine own_go (T' := s₁) (g' := (mkF m 26 #[.val (.long w), .second, .val (.long h), .second] [])) (fun t_ K => XS.ifNo X0.here hx rfl (hb hby d_ad_23) rfl ((if0 _ _).trans (flt (fun q => c23 ((lw_gt (w * h) (16777216 : Int64)).mp q))).2.2.1) K) ?_
        refine own_go (T' := s₁) (g' := (mkF m 27 #[.val (.long w), .second, .val (.long h), .second] [(.int (1 : Int32))])) (fun t_ K => XS.iconst X0.here hx rfl (hb hby d_ad_26) K) ?_
        refine own_go (T' := s₁) (g' := (mkF m 31 #[.val (.long w), .second, .val (.long h), .second] [(.int (1 : Int32))])) (fun t_ K => XS.goto X0.here hx rfl (pc0 := 27) (pc' := 31) rfl (hb hby d_ad_27) (by decide) (by decide) K) ?_
        exact own_retZ X0 hx Bd.returns hlk (Or.inr rfl) (hb hby d_ad_31) ⟨by rw [own_adm, if_neg c5, if_neg c13, if_neg c23], rfl, e0⟩ (by decide) (by decide)
set_option maxRecDepth 65536 in
set_option maxHeartbeats 40000000 in
theorem rm_ex (l : Launch) (Z : State) (a0 : Array Value) (hw : ∀ d ∈ tables_1, d.before a0 Z = true) (w h : Int64) (h0 : Heap)  :
    Pays l Z (⟨"com/example/folioscope/folioscope/iiif/SizeLimitsAdmitsPinLaw", "expected", "(JJ)Z"⟩ : MethodName) method_3_code 4 (some .boolean) ({ frames := 0, cells := 0, slots := 0, locals := 0 } : Room) #[(.long w), (.long h)] h0 (own_pure (some (.int (own_exp w h))) h0) := by
  refine MetFree.of_bodySF (plainFor_of_name pn_0) hisR ?_
  intro p e s m args below meth c s₁ Bd hml0 hP hK
  obtain ⟨rfl, hZ, hh⟩ := hP
  have hx := Bd.exec
  have hby := Bd.bytes
  have hml : c.maxLocals = 4 := hml0
  have hown : s.vm.findClass "com/example/folioscope/folioscope/iiif/SizeLimitsAdmitsPinLaw" = some m.cls := findClass_of_methodNamed Bd.named
  have hnm := (name_of_methodNamed Bd.named Bd.method).1
  have hlk : meth.locks = false := BodyLoose.notSynchronized Bd
  have X0 : Stand p l e ({ frames := 0, cells := 0, slots := 0, locals := 0 } : Room) s m #[(.long w), (.long h)] below meth c s₁ [] 0 0 := Stand.of_body Bd
  have e0 : s₁.heap = h0 := by rw [← hh, Bd.state]; rfl
  show Goes p e below s (own_pure (some (.int (own_exp w h))) h0) ({ frames := 0, cells := 0, slots := 0, locals := 0 } : Room).cells ({ frames := 0, cells := 0, slots := 0, locals := 0 } : Room).slots s₁ (entryFrame m #[(.long w), (.long h)] 4)
  rw [ef_ex m w h]
  refine own_go (T' := s₁) (g' := (mkF m 1 #[.val (.long w), .second, .val (.long h), .second] [(.long w)])) (fun t_ K => XS.lloadN X0.here hx rfl (hb hby d_ex_0) rfl K) ?_
  refine own_go (T' := s₁) (g' := (mkF m 4 #[.val (.long w), .second, .val (.long h), .second] [(.long (65500 : Int64)), (.long w)])) (fun t_ K => X0.ldc2Long hx hown (mvT hZ (hw _ (List.mem_of_getElem? (i := 15) rfl))) (g := (mkF m 1 #[.val (.long w), .second, .val (.long h), .second] [(.long w)])) rfl (hb hby d_ex_1) _ K) ?_
  refine own_go (T' := s₁) (g' := (mkF m 5 #[.val (.long w), .second, .val (.long h), .second] [(.int (lcmpW w (65500 : Int64)))])) (fun t_ K => XS.lcmp X0.here hx rfl (hb hby d_ex_4) rfl K) ?_
  by_cases c5 : (65500 : Int64) < w
  · refine own_go (T' := s₁) (g' := (mkF m 8 #[.val (.long w), .second, .val (.long h), .second] [])) (fun t_ K => XS.ifNo X0.here hx rfl (hb hby d_ex_5) rfl ((if0 _ _).trans (tlt ((lw_gt w (65500 : Int64)).mpr c5)).2.2.2) K) ?_
    refine own_go (T' := s₁) (g' := (mkF m 9 #[.val (.long w), .second, .val (.long h), .second] [(.int (0 : Int32))])) (fun t_ K => XS.iconst X0.here hx rfl (hb hby d_ex_8) K) ?_
    exact own_retZ X0 hx Bd.returns hlk (Or.inl rfl) (hb hby d_ex_9) ⟨by rw [own_exp, if_pos c5], rfl, e0⟩ (by decide) (by decide)
  · refine own_go (T' := s₁) (g' := (mkF m 10 #[.val (.long w), .second, .val (.long h), .second] [])) (fun t_ K => XS.ifYes X0.here hx rfl (pc0 := 5) (pc' := 10) rfl (hb hby d_ex_5) rfl ((if0 _ _).trans (flt (fun q => c5 ((lw_gt w (65500 : Int64)).mp q))).2.2.2) (by decide) (by decide) K) ?_
    refine own_go (T' := s₁) (g' := (mkF m 11 #[.val (.long w), .second, .val (.long h), .second] [(.long h)])) (fun t_ K => XS.lloadN X0.here hx rfl (hb hby d_ex_10) rfl K) ?_
    refine own_go (T' := s₁) (g' := (mkF m 14 #[.val (.long w), .second, .val (.long h), .second] [(.long (65500 : Int64)), (.long h)])) (fun t_ K => X0.ldc2Long hx hown (mvT hZ (hw _ (List.mem_of_getElem? (i := 15) rfl))) (g := (mkF m 11 #[.val (.long w), .second, .val (.long h), .second] [(.long h)])) rfl (hb hby d_ex_11) _ K) ?_
    refine own_go (T' := s₁) (g' := (mkF m 15 #[.val (.long w), .second, .val (.long h), .second] [(.int (lcmpW h (65500 : Int64)))])) (fun t_ K => XS.lcmp X0.here hx rfl (hb hby d_ex_14) rfl K) ?_
    by_cases c15 : (65500 : Int64) < h
    · refine own_go (T' := s₁) (g' := (mkF m 18 #[.val (.long w), .second, .val (.long h), .second] [])) (fun t_ K => XS.ifNo X0.here hx rfl (hb hby d_ex_15) rfl ((if0 _ _).trans (tlt ((lw_gt h (65500 : Int64)).mpr c15)).2.2.2) K) ?_
      refine own_go (T' := s₁) (g' := (mkF m 19 #[.val (.long w), .second, .val (.long h), .second] [(.int (0 : Int32))])) (fun t_ K => XS.iconst X0.here hx rfl (hb hby d_ex_18) K) ?_
      exact own_retZ X0 hx Bd.returns hlk (Or.inl rfl) (hb hby d_ex_19) ⟨by rw [own_exp, if_neg c5, if_pos c15], rfl, e0⟩ (by decide) (by decide)
    · refine own_go (T' := s₁) (g' := (mkF m 20 #[.val (.long w), .second, .val (.long h), .second] [])) (fun t_ K => XS.ifYes X0.here hx rfl (pc0 := 15) (pc' := 20) rfl (hb hby d_ex_15) rfl ((if0 _ _).trans (flt (fun q => c15 ((lw_gt h (65500 : Int64)).mp q))).2.2.2) (by decide) (by decide) K) ?_
      refine own_go (T' := s₁) (g' := (mkF m 21 #[.val (.long w), .second, .val (.long h), .second] [(.long w)])) (fun t_ K => XS.lloadN X0.here hx rfl (hb hby d_ex_20) rfl K) ?_
      refine own_go (T' := s₁) (g' := (mkF m 22 #[.val (.long w), .second, .val (.long h), .second] [(.long (0 : Int64)), (.long w)])) (fun t_ K => XS.lconst X0.here hx rfl (hb hby d_ex_21) K) ?_
      refine own_go (T' := s₁) (g' := (mkF m 23 #[.val (.long w), .second, .val (.long h), .second] [(.int (lcmpW w (0 : Int64)))])) (fun t_ K => XS.lcmp X0.here hx rfl (hb hby d_ex_22) rfl K) ?_
      by_cases c23 : w = (0 : Int64)
      · refine own_go (T' := s₁) (g' := (mkF m 26 #[.val (.long w), .second, .val (.long h), .second] [])) (fun t_ K => XS.ifNo X0.here hx rfl (hb hby d_ex_23) rfl ((if0 _ _).trans (teq ((lw_eq w (0 : Int64)).mpr c23)).2) K) ?_
        refine own_go (T' := s₁) (g' := (mkF m 27 #[.val (.long w), .second, .val (.long h), .second] [(.int (1 : Int32))])) (fun t_ K => XS.iconst X0.here hx rfl (hb hby d_ex_26) K) ?_
        exact own_retZ X0 hx Bd.returns hlk (Or.inr rfl) (hb hby d_ex_27) ⟨by rw [own_exp, if_neg c5, if_neg c15, if_pos c23], rfl, e0⟩ (by decide) (by decide)
      · refine own_go (T' := s₁) (g' := (mkF m 28 #[.val (.long w), .second, .val (.long h), .second] [])) (fun t_ K => XS.ifYes X0.here hx rfl (pc0 := 23) (pc' := 28) rfl (hb hby d_ex_23) rfl ((if0 _ _).trans (feq (fun q => c23 ((lw_eq w (0 : Int64)).mp q))).2) (by decide) (by decide) K) ?_
        refine own_go (T' := s₁) (g' := (mkF m 29 #[.val (.long w), .second, .val (.long h), .second] [(.long h)])) (fun t_ K => XS.lloadN X0.here hx rfl (hb hby d_ex_28) rfl K) ?_
        refine own_go (T' := s₁) (g' := (mkF m 32 #[.val (.long w), .second, .val (.long h), .second] [(.long (16777216 : Int64)), (.long h)])) (fun t_ K => X0.ldc2Long hx hown (mvT hZ (hw _ (List.mem_of_getElem? (i := 16) rfl))) (g := (mkF m 29 #[.val (.long w), .second, .val (.long h), .second] [(.long h)])) rfl (hb hby d_ex_29) _ K) ?_
        refine own_go (T' := s₁) (g' := (mkF m 33 #[.val (.long w), .second, .val (.long h), .second] [(.long w), (.long (16777216 : Int64)), (.long h)])) (fun t_ K => XS.lloadN X0.here hx rfl (hb hby d_ex_32) rfl K) ?_
        refine own_go (T' := s₁) (g' := (mkF m 34 #[.val (.long w), .second, .val (.long h), .second] [(.long ((16777216 : Int64) / w)), (.long h)])) (fun t_ K => XT.ldiv X0.here hx rfl (hb hby d_ex_33) rfl c23 K) ?_
        refine own_go (T' := s₁) (g' := (mkF m 35 #[.val (.long w), .second, .val (.long h), .second] [(.int (lcmpW h ((16777216 : Int64) / w)))])) (fun t_ K => XS.lcmp X0.here hx rfl (hb hby d_ex_34) rfl K) ?_
        by_cases c35 : ((16777216 : Int64) / w) < h
        · refine own_go (T' := s₁) (g' := (mkF m 42 #[.val (.long w), .second, .val (.long h), .second] [])) (fun t_ K => XS.ifYes X0.here hx rfl (pc0 := 35) (pc' := 42) rfl (hb hby d_ex_35) rfl ((if0 _ _).trans (tlt ((lw_gt h ((16777216 : Int64) / w)).mpr c35)).2.2.1) (by decide) (by decide) K) ?_
          refine own_go (T' := s₁) (g' := (mkF m 43 #[.val (.long w), .second, .val (.long h), .second] [(.int (0 : Int32))])) (fun t_ K => XS.iconst X0.here hx rfl (hb hby d_ex_42) K) ?_
          exact own_retZ X0 hx Bd.returns hlk (Or.inl rfl) (hb hby d_ex_43) ⟨by rw [own_exp, if_neg c5, if_neg c15, if_neg c23, if_pos c35], rfl, e0⟩ (by decide) (by decide)
        · refine own_go (T' := s₁) (g' := (mkF m 38 #[.val (.long w), .second, .val (.long h), .second] [])) (fun t_ K => XS.ifNo X0.here hx rfl (hb hby d_ex_35) rfl ((if0 _ _).trans (flt (fun q => c35 ((lw_gt h ((16777216 : Int64) / w)).mp q))).2.2.1) K) ?_
          refine own_go (T' := s₁) (g' := (mkF m 39 #[.val (.long w), .second, .val (.long h), .second] [(.int (1 : Int32))])) (fun t_ K => XS.iconst X0.here hx rfl (hb hby d_ex_38) K) ?_
          refine own_go (T' := s₁) (g' := (mkF m 43 #[.val (.long w), .second, .val (.long h), .second] [(.int (1 : Int32))])) (fun t_ K => XS.goto X0.here hx rfl (pc0 := 39) (pc' := 43) rfl (hb hby d_ex_39) (by decide) (by decide) K) ?_
          exact own_retZ X0 hx Bd.returns hlk (Or.inr rfl) (hb hby d_ex_43) ⟨by rw [own_exp, if_neg c5, if_neg c15, if_neg c23, if_neg c35], rfl, e0⟩ (by decide) (by decide)
theorem own_srange (x : Int64) (mode : Int32) : 0 ≤ (own_side x mode).toInt := by
  have e1 : (x &&& (9223372036854775807 : Int64)).toInt = x.toInt % 2 ^ 63 := Jvm.Kit.i64_mask x _ (k := 63) (by decide) (by decide)
  rw [own_side]
  split
  · have e2 : ((x &&& (9223372036854775807 : Int64)) - (x &&& (9223372036854775807 : Int64)) / (2147483649 : Int64) * (2147483649 : Int64)).toInt = (x &&& (9223372036854775807 : Int64)).toInt % (2147483649 : Int64).toInt := Jvm.Kit.i64_rem_nonneg (by omega)
    have e3 : (2147483649 : Int64).toInt = 2147483649 := by decide
    rw [e3] at e2
    omega
  · have e2 : ((x &&& (9223372036854775807 : Int64)) &&& (131071 : Int64)).toInt = (x &&& (9223372036854775807 : Int64)).toInt % 2 ^ 17 := Jvm.Kit.i64_mask _ _ (k := 17) (by decide) (by decide)
    omega
theorem own_same (w h : Int64) (hw : 0 ≤ w.toInt) (hh : 0 ≤ h.toInt) : own_adm w h = own_exp w h := by
  have cA : (65500 : Int64).toInt = 65500 := by decide
  have cB : (16777216 : Int64).toInt = 16777216 := by decide
  have c0 : (0 : Int64).toInt = 0 := by decide
  rw [own_adm, own_exp]
  by_cases a : (65500 : Int64) < w
  · rw [if_pos a, if_pos a]
  rw [if_neg a, if_neg a]
  by_cases b : (65500 : Int64) < h
  · rw [if_pos b, if_pos b]
  rw [if_neg b, if_neg b]
  rw [Int64.lt_iff_toInt_lt, cA] at a b
  have hm : w.toInt * h.toInt ≤ 65500 * 65500 := Int.mul_le_mul (by omega) (by omega) hh (by omega)
  have hm0 : 0 ≤ w.toInt * h.toInt := Int.mul_nonneg hw hh
  have em : (w * h).toInt = w.toInt * h.toInt := Jvm.Kit.i64_mul (by omega) (by omega)
  by_cases z : w = (0 : Int64)
  · have z' : w.toInt = 0 := by rw [z]; exact c0
    have n : ¬ (16777216 : Int64) < w * h := by rw [Int64.lt_iff_toInt_lt, em, cB, z', Int.zero_mul]; omega
    rw [if_neg n, if_pos z]
  rw [if_neg z]
  have wp : 0 < w.toInt := by
    have : w.toInt ≠ 0 := fun q => z (Int64.toInt_inj.mp (by rw [q]; exact c0.symm))
    omega
  have ed : ((16777216 : Int64) / w).toInt = 16777216 / w.toInt := by
    rw [Jvm.Kit.i64_div (by rw [cB]; omega), cB, Int.tdiv_eq_ediv_of_nonneg (by omega)]
  have key : (16777216 : Int64) < w * h ↔ (16777216 : Int64) / w < h := by
    rw [Int64.lt_iff_toInt_lt, Int64.lt_iff_toInt_lt, em, ed, cB, Int.ediv_lt_iff_lt_mul wp, Int.mul_comm]
  by_cases q : (16777216 : Int64) < w * h
  · rw [if_pos q, if_pos (key.mp q)]
  · rw [if_neg q, if_neg (fun r => q (key.mpr r))]
theorem own_key (a b : Int64) (mode : Int32) : own_adm (own_side a mode) (own_side b (mode >>> ((1 : Int32) &&& 31))) = own_exp (own_side a mode) (own_side b (mode >>> ((1 : Int32) &&& 31))) := own_same _ _ (own_srange _ _) (own_srange _ _)
set_option maxRecDepth 65536 in
set_option maxHeartbeats 40000000 in
theorem rm_law (l : Launch) (Z : State) (a0 : Array Value) (hw : ∀ d ∈ tables_1, d.before a0 Z = true) (ws : List Jvm.Cond) (xa xb : Int64) (mode : Int32) (h0 : Heap)  :
    MetFree l x (head1 (Jvm.Cond.code x code maxLocals ret :: ws) room_1) (fun a U => a = #[(.long xa), (.long xb), (.int mode)] ∧ Z.Warmed39 U.vm ∧ U.heap = h0) (fun _ _ _ _ _ => True) (fun _ U o U' => ∃ v L, o = .returned v ∧ (own_pure (some (.int 1)) h0) v U'.heap L ∧ FrameEnd U o U' L 0 0) := by
  refine MetFree.of_bodySF (plainFor_of_name pn_0) hisR ?_
  intro p e s m args below meth c s₁ Bd hml0 hP hK
  obtain ⟨rfl, hZ, hh⟩ := hP
  have hx := Bd.exec
  have hby := Bd.bytes
  have hml : c.maxLocals = 9 := hml0
  have hown : s.vm.findClass "com/example/folioscope/folioscope/iiif/SizeLimitsAdmitsPinLaw" = some m.cls := findClass_of_methodNamed Bd.named
  have hnm := (name_of_methodNamed Bd.named Bd.method).1
  have hlk : meth.locks = false := BodyLoose.notSynchronized Bd
  have X0 : Stand p l e room_1 s m #[(.long xa), (.long xb), (.int mode)] below meth c s₁ [] 0 0 := Stand.of_body Bd
  have e0 : s₁.heap = h0 := by rw [← hh, Bd.state]; rfl
  show Goes p e below s (own_pure (some (.int 1)) h0) 0 0 s₁ (entryFrame m #[(.long xa), (.long xb), (.int mode)] maxLocals)
  rw [ef_law m xa xb mode]
  refine own_go (T' := s₁) (g' := (mkF m 1 #[.val (.long xa), .second, .val (.long xb), .second, .val (.int mode), .unset, .unset, .unset, .unset] [(.long xa)])) (fun t_ K => XS.lloadN X0.here hx rfl (hb hby at_0) rfl K) ?_
  refine own_go (T' := s₁) (g' := (mkF m 3 #[.val (.long xa), .second, .val (.long xb), .second, .val (.int mode), .unset, .unset, .unset, .unset] [(.int mode), (.long xa)])) (fun t_ K => XS.iload X0.here hx rfl (hb hby at_1) rfl K) ?_
  obtain ⟨T1, X1, e1, st1⟩ := own_callS (W := 0) (rm := { frames := 0, cells := 0, slots := 0, locals := 0 }) X0 hx hZ hown (hw _ (List.mem_of_getElem? (i := 0) rfl)) (hw _ (List.mem_of_getElem? (i := 1) rfl)) (hw _ (List.mem_of_getElem? (i := 2) rfl)) (hw _ (List.mem_of_getElem? (i := 3) rfl)) (by decide) e0 (argsL := [(.long xa), (.int mode)]) (rest := []) (r := some (.long (own_side xa mode))) (rm_sd l Z a0 hw xa mode h0) rfl rfl (by decide) (by decide) (by decide) (by decide) (g := (mkF m 3 #[.val (.long xa), .second, .val (.long xb), .second, .val (.int mode), .unset, .unset, .unset, .unset] [(.int mode), (.long xa)])) rfl (by rw [hml]; rfl) (lenOf pd_0 rfl) rfl (by show 2 * 0 + _ ≤ _; exact Nat.le_of_eq rfl) (hb hby at_3)
  refine own_go (T' := T1) (g' := (mkF m 6 #[.val (.long xa), .second, .val (.long xb), .second, .val (.int mode), .unset, .unset, .unset, .unset] [(.long (own_side xa mode))])) (fun t_ K => st1 _ K) ?_
  refine own_go (T' := T1) (g' := (mkF m 8 #[.val (.long xa), .second, .val (.long xb), .second, .val (.int mode), .val (.long (own_side xa mode)), .second, .unset, .unset] [])) (fun t_ K => XS.lstore X1.here hx rfl (hb hby at_6) rfl (l' := #[.val (.long xa), .second, .val (.long xb), .second, .val (.int mode), .val (.long (own_side xa mode)), .second, .unset, .unset]) rfl K) ?_
  refine own_go (T' := T1) (g' := (mkF m 9 #[.val (.long xa), .second, .val (.long xb), .second, .val (.int mode), .val (.long (own_side xa mode)), .second, .unset, .unset] [(.long xb)])) (fun t_ K => XS.lloadN X1.here hx rfl (hb hby at_8) rfl K) ?_
  refine own_go (T' := T1) (g' := (mkF m 11 #[.val (.long xa), .second, .val (.long xb), .second, .val (.int mode), .val (.long (own_side xa mode)), .second, .unset, .unset] [(.int mode), (.long xb)])) (fun t_ K => XS.iload X1.here hx rfl (hb hby at_9) rfl K) ?_
  refine own_go (T' := T1) (g' := (mkF m 12 #[.val (.long xa), .second, .val (.long xb), .second, .val (.int mode), .val (.long (own_side xa mode)), .second, .unset, .unset] [(.int (1 : Int32)), (.int mode), (.long xb)])) (fun t_ K => XS.iconst X1.here hx rfl (hb hby at_11) K) ?_
  refine own_go (T' := T1) (g' := (mkF m 13 #[.val (.long xa), .second, .val (.long xb), .second, .val (.int mode), .val (.long (own_side xa mode)), .second, .unset, .unset] [(.int (mode >>> ((1 : Int32) &&& 31))), (.long xb)])) (fun t_ K => XT.ishr X1.here hx rfl (hb hby at_12) rfl K) ?_
  obtain ⟨T2, X2, e2, st2⟩ := own_callS (W := 0) (rm := { frames := 0, cells := 0, slots := 0, locals := 0 }) X1 hx hZ hown (hw _ (List.mem_of_getElem? (i := 0) rfl)) (hw _ (List.mem_of_getElem? (i := 1) rfl)) (hw _ (List.mem_of_getElem? (i := 2) rfl)) (hw _ (List.mem_of_getElem? (i := 3) rfl)) (by decide) e1 (argsL := [(.long xb), (.int (mode >>> ((1 : Int32) &&& 31)))]) (rest := []) (r := some (.long (own_side xb (mode >>> ((1 : Int32) &&& 31))))) (rm_sd l Z a0 hw xb (mode >>> ((1 : Int32) &&& 31)) h0) rfl rfl (by decide) (by decide) (by decide) (by decide) (g := (mkF m 13 #[.val (.long xa), .second, .val (.long xb), .second, .val (.int mode), .val (.long (own_side xa mode)), .second, .unset, .unset] [(.int (mode >>> ((1 : Int32) &&& 31))), (.long xb)])) rfl (by rw [hml]; rfl) (lenOf pd_0 rfl) rfl (by show 2 * 0 + _ ≤ _; exact Nat.le_of_eq rfl) (hb hby at_13)
  refine own_go (T' := T2) (g' := (mkF m 16 #[.val (.long xa), .second, .val (.long xb), .second, .val (.int mode), .val (.long (own_side xa mode)), .second, .unset, .unset] [(.long (own_side xb (mode >>> ((1 : Int32) &&& 31))))])) (fun t_ K => st2 _ K) ?_
  refine own_go (T' := T2) (g' := (mkF m 18 #[.val (.long xa), .second, .val (.long xb), .second, .val (.int mode), .val (.long (own_side xa mode)), .second, .val (.long (own_side xb (mode >>> ((1 : Int32) &&& 31)))), .second] [])) (fun t_ K => XS.lstore X2.here hx rfl (hb hby at_16) rfl (l' := #[.val (.long xa), .second, .val (.long xb), .second, .val (.int mode), .val (.long (own_side xa mode)), .second, .val (.long (own_side xb (mode >>> ((1 : Int32) &&& 31)))), .second]) rfl K) ?_
  refine own_go (T' := T2) (g' := (mkF m 20 #[.val (.long xa), .second, .val (.long xb), .second, .val (.int mode), .val (.long (own_side xa mode)), .second, .val (.long (own_side xb (mode >>> ((1 : Int32) &&& 31)))), .second] [(.long (own_side xa mode))])) (fun t_ K => XS.lload X2.here hx rfl (hb hby at_18) rfl K) ?_
  refine own_go (T' := T2) (g' := (mkF m 22 #[.val (.long xa), .second, .val (.long xb), .second, .val (.int mode), .val (.long (own_side xa mode)), .second, .val (.long (own_side xb (mode >>> ((1 : Int32) &&& 31)))), .second] [(.long (own_side xb (mode >>> ((1 : Int32) &&& 31)))), (.long (own_side xa mode))])) (fun t_ K => XS.lload X2.here hx rfl (hb hby at_20) rfl K) ?_
  obtain ⟨T3, X3, e3, st3⟩ := own_callS (W := 0) (rm := { frames := 0, cells := 0, slots := 0, locals := 0 }) X2 hx hZ hown (hw _ (List.mem_of_getElem? (i := 6) rfl)) (hw _ (List.mem_of_getElem? (i := 7) rfl)) (hw _ (List.mem_of_getElem? (i := 8) rfl)) (hw _ (List.mem_of_getElem? (i := 9) rfl)) (by decide) e2 (argsL := [(.long (own_side xa mode)), (.long (own_side xb (mode >>> ((1 : Int32) &&& 31))))]) (rest := []) (r := some (.int (own_adm (own_side xa mode) (own_side xb (mode >>> ((1 : Int32) &&& 31)))))) (rm_ad l Z a0 hw (own_side xa mode) (own_side xb (mode >>> ((1 : Int32) &&& 31))) h0) rfl rfl (by decide) (by decide) (by decide) (by decide) (g := (mkF m 22 #[.val (.long xa), .second, .val (.long xb), .second, .val (.int mode), .val (.long (own_side xa mode)), .second, .val (.long (own_side xb (mode >>> ((1 : Int32) &&& 31)))), .second] [(.long (own_side xb (mode >>> ((1 : Int32) &&& 31)))), (.long (own_side xa mode))])) rfl (by rw [hml]; rfl) (lenOf pd_1 rfl) rfl (by show 2 * 0 + _ ≤ _; exact Nat.le_of_eq rfl) (hb hby at_22)
  refine own_go (T' := T3) (g' := (mkF m 25 #[.val (.long xa), .second, .val (.long xb), .second, .val (.int mode), .val (.long (own_side xa mode)), .second, .val (.long (own_side xb (mode >>> ((1 : Int32) &&& 31)))), .second] [(.int (own_adm (own_side xa mode) (own_side xb (mode >>> ((1 : Int32) &&& 31)))))])) (fun t_ K => st3 _ K) ?_
  refine own_go (T' := T3) (g' := (mkF m 27 #[.val (.long xa), .second, .val (.long xb), .second, .val (.int mode), .val (.long (own_side xa mode)), .second, .val (.long (own_side xb (mode >>> ((1 : Int32) &&& 31)))), .second] [(.long (own_side xa mode)), (.int (own_adm (own_side xa mode) (own_side xb (mode >>> ((1 : Int32) &&& 31)))))])) (fun t_ K => XS.lload X3.here hx rfl (hb hby at_25) rfl K) ?_
  refine own_go (T' := T3) (g' := (mkF m 29 #[.val (.long xa), .second, .val (.long xb), .second, .val (.int mode), .val (.long (own_side xa mode)), .second, .val (.long (own_side xb (mode >>> ((1 : Int32) &&& 31)))), .second] [(.long (own_side xb (mode >>> ((1 : Int32) &&& 31)))), (.long (own_side xa mode)), (.int (own_adm (own_side xa mode) (own_side xb (mode >>> ((1 : Int32) &&& 31)))))])) (fun t_ K => XS.lload X3.here hx rfl (hb hby at_27) rfl K) ?_
  obtain ⟨T4, X4, e4, st4⟩ := own_callS (W := 1) (rm := { frames := 0, cells := 0, slots := 0, locals := 0 }) X3 hx hZ hown (hw _ (List.mem_of_getElem? (i := 12) rfl)) (hw _ (List.mem_of_getElem? (i := 13) rfl)) (hw _ (List.mem_of_getElem? (i := 2) rfl)) (hw _ (List.mem_of_getElem? (i := 14) rfl)) (by decide) e3 (argsL := [(.long (own_side xa mode)), (.long (own_side xb (mode >>> ((1 : Int32) &&& 31))))]) (rest := [(.int (own_adm (own_side xa mode) (own_side xb (mode >>> ((1 : Int32) &&& 31)))))]) (r := some (.int (own_exp (own_side xa mode) (own_side xb (mode >>> ((1 : Int32) &&& 31)))))) (rm_ex l Z a0 hw (own_side xa mode) (own_side xb (mode >>> ((1 : Int32) &&& 31))) h0) rfl rfl (by decide) (by decide) (by decide) (by decide) (g := (mkF m 29 #[.val (.long xa), .second, .val (.long xb), .second, .val (.int mode), .val (.long (own_side xa mode)), .second, .val (.long (own_side xb (mode >>> ((1 : Int32) &&& 31)))), .second] [(.long (own_side xb (mode >>> ((1 : Int32) &&& 31)))), (.long (own_side xa mode)), (.int (own_adm (own_side xa mode) (own_side xb (mode >>> ((1 : Int32) &&& 31)))))])) rfl (by rw [hml]; rfl) (lenOf pd_1 rfl) rfl (by show 2 * 0 + _ ≤ _; exact Nat.le_of_eq rfl) (hb hby at_29)
  refine own_go (T' := T4) (g' := (mkF m 32 #[.val (.long xa), .second, .val (.long xb), .second, .val (.int mode), .val (.long (own_side xa mode)), .second, .val (.long (own_side xb (mode >>> ((1 : Int32) &&& 31)))), .second] [(.int (own_exp (own_side xa mode) (own_side xb (mode >>> ((1 : Int32) &&& 31))))), (.int (own_adm (own_side xa mode) (own_side xb (mode >>> ((1 : Int32) &&& 31)))))])) (fun t_ K => st4 _ K) ?_
  refine own_go (T' := T4) (g' := (mkF m 35 #[.val (.long xa), .second, .val (.long xb), .second, .val (.int mode), .val (.long (own_side xa mode)), .second, .val (.long (own_side xb (mode >>> ((1 : Int32) &&& 31)))), .second] [])) (fun t_ K => XS.icmpNo X4.here hx rfl (hb hby at_32) rfl (teq (own_key xa xb mode)).2 K) ?_
  refine own_go (T' := T4) (g' := (mkF m 36 #[.val (.long xa), .second, .val (.long xb), .second, .val (.int mode), .val (.long (own_side xa mode)), .second, .val (.long (own_side xb (mode >>> ((1 : Int32) &&& 31)))), .second] [(.int (1 : Int32))])) (fun t_ K => XS.iconst X4.here hx rfl (hb hby at_35) K) ?_
  refine own_go (T' := T4) (g' := (mkF m 40 #[.val (.long xa), .second, .val (.long xb), .second, .val (.int mode), .val (.long (own_side xa mode)), .second, .val (.long (own_side xb (mode >>> ((1 : Int32) &&& 31)))), .second] [(.int (1 : Int32))])) (fun t_ K => XS.goto X4.here hx rfl (pc0 := 36) (pc' := 40) rfl (hb hby at_36) (by decide) (by decide) K) ?_
  exact own_retZ X4 hx Bd.returns hlk (Or.inr rfl) (hb hby at_40) ⟨rfl, rfl, e4⟩ (by decide) (by decide)
set_option maxRecDepth 65536 in
set_option maxHeartbeats 40000000 in
theorem comes_1 {Post : Tables → Env → Array Value → State → Outcome → State → Prop} (hpost : ∀ tb e args s v u, (limb_1_1.after args s (.returned v) u = true ∧ limb_1_2.after args s (.returned v) u = true ∧ True) → FrameEnd s (.returned v) u (Jvm.fieldLocs frame_1_writes args s ++ Jvm.arrayLocs frame_1_arrays args s ++ Jvm.staticLocs frame_1_statics s) 0 0 → Post tb e args s (.returned v) u) :
    ArmFor flags0 classFile x code maxLocals ret World_1 tables_1 room_1 Calls_1 rest_1 Pre_1 Post := by
  intro l hfl _ _ p e ha hc hk s m args below hf hA hF happ hP
  obtain ⟨hcalls, hrest, hpre⟩ := hP
  obtain ⟨-, -, -, hnamed, -, -, -, hat⟩ := (Spec.applies_iff hf).mp happ
  obtain ⟨hg, hn⟩ := and_e (Cond.before_iff.mp (show (Jvm.Cond.and given_1 narrow_1).before args s = true from hpre))
  obtain ⟨hcount, hk0⟩ := and_e hg
  obtain ⟨w0, w1, w2, rfl⟩ : ∃ w0 w1 w2 : Value, args = #[w0, w1, w2] := by
    have hs : args.size = 3 := by simpa [Cond.value, given_1] using hcount
    obtain ⟨L⟩ := args
    match L, hs with
    | [w0, w1, w2], _ => exact ⟨w0, w1, w2, rfl⟩
  have hw := fun d (hd : d ∈ tables_1) => atoms_spec (ws := Jvm.Cond.code x code maxLocals ret :: tables_1) hat d (List.mem_cons_of_mem _ hd)
  have hfit : Fit s := fun {y c} hc i hi => by
    obtain ⟨ha, rfl⟩ := Array.getElem?_eq_some_iff.mp hc
    have q := List.all_eq_true.mp ((Array.all_eq_true_iff_forall_mem.mp hF) _ (Array.getElem_mem ha)) i (List.mem_range.mpr hi)
    simpa [Array.getElem?_eq_getElem hi] using q
  obtain ⟨ka0, hk1⟩ := and_e hk0
  obtain ⟨q0, f0⟩ := isL_v ka0
  obtain rfl : w0 = (.long q0) := Option.some.inj f0
  obtain ⟨ka1, hk2⟩ := and_e hk1
  obtain ⟨q1, f1⟩ := isL_v ka1
  obtain rfl : w1 = (.long q1) := Option.some.inj f1
  obtain ⟨q2, f2⟩ := is_v hk2
  obtain rfl : w2 = (.int q2) := Option.some.inj f2
  obtain ⟨n, o, h1, h2, h3, _, L, rfl, hQ, hq⟩ := rm_law l s _ hw tables_1 q0 q1 q2 s.heap p e ha hc hk s m _ below hf ((Spec.applies_iff_loose hf).mp happ).1 ⟨rfl, State.Warmed39.refl s, rfl⟩ trivial
  obtain ⟨rfl, rfl, -⟩ := hQ
  refine ⟨n, _, h1, h2, h3, hpost _ _ _ _ _ _ ⟨Cond.after_iff.mpr rfl, Cond.after_iff.mpr (eq_i res_at (Term.int_eval (1)) rfl), trivial⟩ ⟨hq.1, hq.2.1, (hq.2.2.sift fun y hy => nomatch hy).mono (by decide) (by decide)⟩⟩
theorem main_1_1 : Claimed_1_1 := comes_1 fun _ _ _ _ _ _ h hF => ⟨h.1, hF⟩
theorem main_1_2 : Claimed_1_2 := comes_1 fun _ _ _ _ _ _ h hF => ⟨h.2.1, hF⟩
end Jvm.Pilot.@@N@@
namespace Jvm.Pilot.@@N@@
open Jvm Jvm.ClassFile Sem Op Lib Jvm.Free Jvm.Stand Jvm.Pilot.@@N@@.Jvm.D
/-! MADE BY PROGRAM (witnessworld.py) out of the Statement's table words and the real class files: 9 classes; the members and pool entries that the words name. The judged class is class 1, her method 3. -/
namespace start1
open Jvm.ClassFile
def u (s : String) : CpInfo := .utf8 (stringToUtf16 s)
/-- a pool by its gaps: so many unusable entries, then the entry; so many at the end -/
def gap : Nat → List CpInfo → List CpInfo
  | 0, r => r
  | n + 1, r => .unusable :: gap n r
def poolList (es : List (Nat × CpInfo)) (last : Nat) : List CpInfo := es.foldr (fun e r => gap e.1 (e.2 :: r)) (gap last [])
def pool (es : List (Nat × CpInfo)) (last : Nat) : Array CpInfo := ⟨poolList es last⟩
def fileOf (pool : Array CpInfo) (this : Nat) (attrs : Array Attribute := #[]) (ms : Array MethodInfo := #[]) (fl : Nat := 33) (sup : Nat := 0) (ifs : Array Nat := #[]) (fds : Array FieldInfo := #[]) : ClassFile where
  minorVersion := 0
  majorVersion := 65
  constantPool := pool
  accessFlags := fl
  thisClass := this
  superClass := sup
  interfaces := ifs
  fields := fds
  methods := ms
  attributes := attrs
def plain (name : String) (sup : Option ClassId) : Class where
  name := name
  kind := .ordinary
  loader := none
  accessFlags := 33
  super := sup
  interfaces := #[]
  cf := none
  fields := #[]
  methods := #[]
  instanceTypes := #[]
  staticTypes := #[]
  resolved := #[]
  callSites := []
  init := .initialized
  statics := none
  mirror := none

def pool0 : Array CpInfo := pool [(5, u "<init>"), (0, u "()V"), (1, .class_ 10), (1, u "java/lang/Object")] 113

def k0m0 : Method := { name := "<init>", desc := "()V", sig := { parameters := [], returnType := none }, accessFlags := 1, code := none }
/-- java/lang/Object -/
def k0 : Class := { plain "java/lang/Object" none with
  accessFlags := 33
  interfaces := #[]
  cf := some (fileOf pool0 8 #[] #[{ accessFlags := 1, nameIndex := 5, descriptorIndex := 6, attributes := #[] }] 33 0 #[] #[])
  fields := #[]
  methods := #[k0m0]
  instanceTypes := #[]
  staticTypes := #[]
  resolved := Array.replicate 124 none
  statics := none }

def pool1 : Array CpInfo := pool [(2, .class_ 4), (1, u "java/lang/Object"), (0, u "<init>"), (0, u "()V"), (0, .long 9223372036854775807), (1, .long 131071), (1, .long 2147483649), (1, .long 65500), (1, .long 16777216), (1, .methodref 18 19), (0, .class_ 20), (0, .nameAndType 21 22), (0, u "com/example/folioscope/folioscope/iiif/SizeLimitsAdmitsPinLaw"), (0, u "side"), (0, u "(JI)J"), (0, .methodref 24 25), (0, .class_ 26), (0, .nameAndType 27 28), (0, u "com/example/folioscope/folioscope/iiif/SizeLimits"), (0, u "admits"), (0, u "(JJ)Z"), (0, .methodref 18 30), (0, .nameAndType 31 28), (0, u "expected"), (3, u "law"), (0, u "(JJI)Z")] 2

def k1m0 : Method := { name := "<init>", desc := "()V", sig := { parameters := [], returnType := none }, accessFlags := 2, code := none }
def k1c1 : Code := { maxStack := 4, maxLocals := 5, code := method_2_code, exceptionTable := #[], attributes := #[] }
def k1m1 : Method := { name := "side", desc := "(JI)J", sig := { parameters := [.long, .int], returnType := some .long }, accessFlags := 10, code := some k1c1 }
def k1c2 : Code := { maxStack := 6, maxLocals := 4, code := method_3_code, exceptionTable := #[], attributes := #[] }
def k1m2 : Method := { name := "expected", desc := "(JJ)Z", sig := { parameters := [.long, .long], returnType := some .boolean }, accessFlags := 10, code := some k1c2 }
def k1c3 : Code := { maxStack := 5, maxLocals := 9, code := code, exceptionTable := #[], attributes := #[] }
def k1m3 : Method := { name := "law", desc := "(JJI)Z", sig := { parameters := [.long, .long, .int], returnType := some .boolean }, accessFlags := 9, code := some k1c3 }
/-- com/example/folioscope/folioscope/iiif/SizeLimitsAdmitsPinLaw -/
def k1 : Class := { plain "com/example/folioscope/folioscope/iiif/SizeLimitsAdmitsPinLaw" (some 0) with
  accessFlags := 49
  interfaces := #[]
  cf := some (fileOf pool1 18 #[] #[{ accessFlags := 2, nameIndex := 5, descriptorIndex := 6, attributes := #[] }, { accessFlags := 10, nameIndex := 21, descriptorIndex := 22, attributes := #[] }, { accessFlags := 10, nameIndex := 31, descriptorIndex := 28, attributes := #[] }, { accessFlags := 9, nameIndex := 35, descriptorIndex := 36, attributes := #[] }] 49 2 #[] #[])
  fields := #[]
  methods := #[k1m0, k1m1, k1m2, k1m3]
  instanceTypes := #[]
  staticTypes := #[]
  resolved := Array.replicate 39 none
  statics := none }

def pool2 : Array CpInfo := pool [(4, .class_ 6), (1, u "java/lang/Object"), (0, u "<init>"), (0, u "()V"), (0, .class_ 10), (0, u "com/example/folioscope/folioscope/iiif/SizeLimits"), (0, .long 65500), (1, .long 16777216), (1, u "MAX_SIDE"), (0, u "I"), (2, u "MAX_AREA"), (0, u "J"), (2, u "admits"), (0, u "(JJ)Z")] 3

def k2m0 : Method := { name := "<init>", desc := "()V", sig := { parameters := [], returnType := none }, accessFlags := 2, code := none }
def k2c1 : Code := { maxStack := 4, maxLocals := 4, code := prog_34_method_2_code, exceptionTable := #[], attributes := #[] }
def k2m1 : Method := { name := "admits", desc := "(JJ)Z", sig := { parameters := [.long, .long], returnType := some .boolean }, accessFlags := 8, code := some k2c1 }
/-- com/example/folioscope/folioscope/iiif/SizeLimits -/
def k2 : Class := { plain "com/example/folioscope/folioscope/iiif/SizeLimits" (some 0) with
  accessFlags := 48
  interfaces := #[]
  cf := some (fileOf pool2 9 #[] #[{ accessFlags := 2, nameIndex := 7, descriptorIndex := 8, attributes := #[] }, { accessFlags := 8, nameIndex := 23, descriptorIndex := 24, attributes := #[] }] 48 4 #[] #[{ accessFlags := 24, nameIndex := 15, descriptorIndex := 16, attributes := #[] }, { accessFlags := 24, nameIndex := 19, descriptorIndex := 20, attributes := #[] }])
  fields := #[{ name := "MAX_SIDE", type := .int, accessFlags := 24, slot := 0, constantValue := 0 }, { name := "MAX_AREA", type := .long, accessFlags := 24, slot := 1, constantValue := 0 }]
  methods := #[k2m0, k2m1]
  instanceTypes := #[]
  staticTypes := #[.int, .long]
  resolved := Array.replicate 28 none
  statics := none }

def pool3 : Array CpInfo := pool [(1, u "java/lang/Cloneable"), (0, .class_ 1), (0, u "java/lang/Object"), (0, .class_ 3)] 3

/-- java/lang/Cloneable -/
def k3 : Class := { plain "java/lang/Cloneable" (some 0) with
  accessFlags := 1537
  interfaces := #[]
  cf := some (fileOf pool3 2 #[] #[] 1537 4 #[] #[])
  fields := #[]
  methods := #[]
  instanceTypes := #[]
  staticTypes := #[]
  resolved := Array.replicate 8 none
  statics := none }

def pool4 : Array CpInfo := pool [(1, u "java/io/Serializable"), (0, .class_ 1), (0, u "java/lang/Object"), (0, .class_ 3)] 3

/-- java/io/Serializable -/
def k4 : Class := { plain "java/io/Serializable" (some 0) with
  accessFlags := 1537
  interfaces := #[]
  cf := some (fileOf pool4 2 #[] #[] 1537 4 #[] #[])
  fields := #[]
  methods := #[]
  instanceTypes := #[]
  staticTypes := #[]
  resolved := Array.replicate 8 none
  statics := none }

/-- the primitive byte -/
def k5 : Class := { plain "byte" none with kind := .primitive 'B', accessFlags := 0x411 }
/-- [B -/
def k6 : Class := { plain "[B" (some 0) with kind := .array 5 .byte, interfaces := #[3, 4], accessFlags := 1041 }

/-- the primitive int -/
def k7 : Class := { plain "int" none with kind := .primitive 'I', accessFlags := 0x411 }
/-- [I -/
def k8 : Class := { plain "[I" (some 0) with kind := .array 7 .int, interfaces := #[3, 4], accessFlags := 1041 }

def heap : Heap := #[]
def classes : Array Class := #[k0, k1, k2, k3, k4, k5, k6, k7, k8]
def interned : List (Array UInt16 × Addr) := []
def slotsUsed : Nat := 0
def theMethod : MethodId := ⟨1, 3⟩
def args0 : Array Value := #[.long 5, .long 7, .int 3]
def aboutOver (below : List Frame) : State where
  vm := { classes := classes, interned := interned.toArray }
  heap := heap
  slotsUsed := slotsUsed
  threads := #[{ frames := .invoking theMethod args0 :: below }]
def below0 : List Frame := [.native { method := ⟨0, 0⟩, args := #[] }]
def about1 : State := aboutOver below0
def p0 : Program := .bare "" "" ""
def e0 : Env := launch0.env 0 0 0
theorem w_frames : about1.frames = Frame.invoking theMethod args0 :: below0 := rfl
set_option maxRecDepth 65536 in
theorem w_args : argsFit about1.vm theMethod args0 = true := by decide +kernel
set_option maxRecDepth 65536 in
theorem w_heap : heapFits about1 = true := by decide +kernel
set_option maxRecDepth 65536 in
theorem w_runnable : about1.curStatus? = some .runnable := by decide +kernel
set_option maxRecDepth 65536 in
theorem w_alone : about1.alone = true := by decide +kernel
set_option maxRecDepth 65536 in
theorem w_named : about1.methodNamed? x = some theMethod := by decide +kernel
set_option maxRecDepth 65536 in
theorem w_hears : about1.hears theMethod below0 = true := by decide +kernel
set_option maxRecDepth 65536 in
theorem w_ripe : about1.ripe theMethod args0 below0 = true := by decide +kernel
theorem w_running : about1.status = .running := rfl
set_option maxRecDepth 65536 in
theorem w_room : about1.hasRoom e0.platform room_1 = true :=
  launch0.hasRoom_least _ room_1 (by decide +kernel) (by decide +kernel) (by decide +kernel) (by decide +kernel) (by decide +kernel) (by decide +kernel)
theorem allAtoms_all (ts : List Jvm.Cond) (a : Array Jvm.Value) (st : Jvm.State) : (allAtoms ts).before a st = ts.all (fun c => c.before a st) := by
  induction ts with
  | nil => rfl
  | cons c t ih =>
    show (Jvm.Cond.and c (allAtoms t)).before a st = _
    rw [Jvm.Cond.before_and, ih, List.all_cons]
def words1 : List Jvm.Cond := Jvm.Cond.code x code maxLocals ret :: tables_1
/-- a 'code' word, met by the world's own term for the bytes: nothing is compared byte by byte -/
theorem code_word {y : MethodName} {bytes : ByteArray} {mx : Nat} {rt : Option FieldType} {a : Array Value} {s : State} {m : MethodId} {meth : Method} {c : Code} (h1 : s.methodNamed? y = some m) (h2 : s.vm.method? m = some meth) (h3 : meth.code = some c) (h4 : c.code = bytes)
    (h5 : (c.maxLocals == mx && c.exceptionTable.isEmpty && decide (c.maxStack ≤ mostOperands) && decide (meth.sig.returnType = rt) && !meth.locks && decide (parseMethodDescriptor y.desc = some meth.sig)) = true) : (Jvm.Cond.code y bytes mx rt).before a s = true := by
  simp only [Bool.and_eq_true, beq_iff_eq, Bool.not_eq_true', decide_eq_true_eq] at h5
  obtain ⟨⟨⟨⟨⟨g1, g2⟩, g3⟩, g4⟩, g5⟩, g6⟩ := h5
  simp [Cond.before, Cond.holds, Cond.value, h1, h2, h3, h4, g1, g2, g3, g4, g5, g6]
def isCode : Jvm.Cond → Bool
  | .code _ _ _ _ => true
  | _ => false
theorem all_split {L : List Jvm.Cond} {P : Jvm.Cond → Bool} (h1 : L.all (fun c => isCode c || P c) = true) (h2 : ∀ c ∈ L.filter isCode, P c = true) : L.all P = true := by
  refine List.all_eq_true.mpr fun c hc => ?_
  have h := List.all_eq_true.mp h1 c hc
  rcases Bool.eq_false_or_eq_true (isCode c) with hi | hi
  · exact h2 c (List.mem_filter.mpr ⟨hc, hi⟩)
  · simpa [hi] using h
set_option maxRecDepth 65536 in
theorem w_c0 : (Jvm.Cond.code x code maxLocals ret).before args0 about1 = true := code_word (m := ⟨1, 3⟩) (meth := k1m3) (c := k1c3) (by decide +kernel) rfl rfl rfl (by decide +kernel)
set_option maxRecDepth 65536 in
theorem w_c1 : (Jvm.Cond.code ({ cls := "com/example/folioscope/folioscope/iiif/SizeLimitsAdmitsPinLaw", name := "side", desc := "(JI)J" } : Jvm.MethodName) method_2_code (5 : Nat) (Option.some Jvm.ClassFile.FieldType.long)).before args0 about1 = true := code_word (m := ⟨1, 1⟩) (meth := k1m1) (c := k1c1) (by decide +kernel) rfl rfl rfl (by decide +kernel)
set_option maxRecDepth 65536 in
theorem w_c2 : (Jvm.Cond.code ({ cls := "com/example/folioscope/folioscope/iiif/SizeLimits", name := "admits", desc := "(JJ)Z" } : Jvm.MethodName) prog_34_method_2_code (4 : Nat) (Option.some Jvm.ClassFile.FieldType.boolean)).before args0 about1 = true := code_word (m := ⟨2, 1⟩) (meth := k2m1) (c := k2c1) (by decide +kernel) rfl rfl rfl (by decide +kernel)
set_option maxRecDepth 65536 in
theorem w_c3 : (Jvm.Cond.code ({ cls := "com/example/folioscope/folioscope/iiif/SizeLimitsAdmitsPinLaw", name := "expected", desc := "(JJ)Z" } : Jvm.MethodName) method_3_code (4 : Nat) (Option.some Jvm.ClassFile.FieldType.boolean)).before args0 about1 = true := code_word (m := ⟨1, 2⟩) (meth := k1m2) (c := k1c2) (by decide +kernel) rfl rfl rfl (by decide +kernel)
def codes1 : List Jvm.Cond := [Jvm.Cond.code x code maxLocals ret, Jvm.Cond.code ({ cls := "com/example/folioscope/folioscope/iiif/SizeLimitsAdmitsPinLaw", name := "side", desc := "(JI)J" } : Jvm.MethodName) method_2_code (5 : Nat) (Option.some Jvm.ClassFile.FieldType.long), Jvm.Cond.code ({ cls := "com/example/folioscope/folioscope/iiif/SizeLimits", name := "admits", desc := "(JJ)Z" } : Jvm.MethodName) prog_34_method_2_code (4 : Nat) (Option.some Jvm.ClassFile.FieldType.boolean), Jvm.Cond.code ({ cls := "com/example/folioscope/folioscope/iiif/SizeLimitsAdmitsPinLaw", name := "expected", desc := "(JJ)Z" } : Jvm.MethodName) method_3_code (4 : Nat) (Option.some Jvm.ClassFile.FieldType.boolean)]
set_option maxRecDepth 65536 in
theorem codes_eq : words1.filter isCode = codes1 := rfl
theorem w_codes : ∀ c ∈ words1.filter isCode, c.before args0 about1 = true := by
  rw [codes_eq]
  intro c hc
  simp only [codes1, List.mem_cons, List.not_mem_nil, or_false] at hc
  rcases hc with rfl | rfl | rfl | rfl
  · exact w_c0
  · exact w_c1
  · exact w_c2
  · exact w_c3
set_option maxRecDepth 65536 in
theorem w_t1 : words1.all (fun c => isCode c || c.before args0 about1) = true := by decide +kernel
theorem w_tables : (allAtoms (Jvm.Cond.code x code maxLocals ret :: tables_1)).before args0 about1 = true := by
  rw [allAtoms_all]
  show words1.all (fun c => c.before args0 about1) = true
  refine all_split ?_ w_codes
  rw [w_t1]
set_option maxRecDepth 65536 in
theorem w_case : (Jvm.Cond.and given_1 narrow_1).before args0 about1 = true := by decide +kernel
theorem w_applies : (headSpec (Jvm.Cond.code x code maxLocals ret :: tables_1) room_1).applies x e0.platform about1 = true :=
  (Spec.applies_iff w_frames).mpr ⟨w_running, w_runnable, w_alone, w_named, w_hears, w_ripe, w_room, w_tables⟩
theorem atStart : AtStart classFile x code maxLocals ret World_1 tables_1 room_1 Calls_1 rest_1 Pre_1 launch0 p0 e0 about1 theMethod args0 below0 :=
  ⟨lists_1, trivial, launch0.admits_env _ _ _, launch0.least_env, fairChoices_fair.cas, fairChoices_fair.clock, w_frames, w_args, w_heap, w_applies, trivial, trivial, w_case⟩
end start1
theorem witness_1 : WitnessClaimed_1 := ⟨start1.p0, start1.e0, start1.about1, start1.theMethod, start1.args0, start1.below0, start1.atStart⟩
end Jvm.Pilot.@@N@@
