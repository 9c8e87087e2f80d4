import JvmDerived
import JvmDerived.Pilot.@@N@@Statement
import JvmDerived.Pilot.@@N@@Code
set_option linter.unusedVariables false
set_option linter.unusedSimpArgs false
namespace Jvm.RoadKit
open Sem ClassFile Op Lib Jvm.Stand Jvm.Free Jvm.LawKit
section New
variable {p : Program} {l : Launch} {e : Env} {R : Room} {s : State} {m : MethodId} {args : Array Value} {below : List Frame} {meth : Method} {c : Code} {T : State} {locs : List Loc} {cells slots : Nat}
theorem retI (X : Stand p l e R s m args below meth c T locs cells slots) (hx : p.tables.exec = Jvm.exec) {pc : Nat} {Ls : Array Slot} {z : Int32} {rest : List Value} (hret : meth.sig.returnType = some .int) (hd : decode c.code pc = .ok (.ireturn, 1)) {fs : List Frame}
    (hl : ∀ (f : JFrame) (acts : List Action), f.method = m → f.locked = none → f.entered = [] → (doReturn e (T.setTop f) acts (some (.int z))).1 = T.setFrames fs) : Steps p.tables e below (T.setTop (mkF m pc Ls (.int z :: rest))) (T.setFrames fs) := by
  have hm' : T.vm.method? m = some meth := X.method'
  have hn : narrow .int (.int z) = .int z := rfl
  show Steps p.tables e below (T.setTop { method := m, pc := pc, locals := Ls, stack := _ :: rest, locked := none }) _
  jvm_step X.here [X.here.top, hx, hd, hm', hret, hn]
  first | (intro acts; rw [hl _ acts rfl rfl rfl]) | rw [hl _ _ rfl rfl rfl]
  exact Steps.refl _
end New
end Jvm.RoadKit
namespace Jvm.Pilot.@@N@@
open Jvm Jvm.ClassFile Sem Op Lib Jvm.Free Jvm.Stand Jvm.LawKit Jvm.RoadKit Bundle Jvm.Pilot.@@N@@.Jvm.D
section Own
variable {p : Program} {l : Launch} {e : Env} {R : Room} {s : State} {m : MethodId} {args : Array Value} {below : List Frame} {meth : Method} {c : Code} {T : State} {locs : List Loc} {cells slots : Nat} {Z : State} {a0 : Array Value} {h h' h0 : Heap} {a b : Addr} {C nm dd : String} {v w : Value} {sl n0 : Nat} {ws ws' : List (Addr × Nat)} {ty : FieldType} {k : ClassId} {z j : Int32} {vs : List Value} {dv : Value}
/-- the cells of h stand in h' as they stood, but for the places in ws -/
def KL (h h' : Heap) (ws : List (Addr × Nat)) : Prop := h.size ≤ h'.size ∧ ∀ (x : Addr) (c : Cell), h[x]? = some c → ∃ c' : Cell, h'[x]? = some c' ∧ c'.cls = c.cls ∧ c'.vm = c.vm ∧ c'.slots.size = c.slots.size ∧ (∀ i, (x, i) ∉ ws → c'.slots[i]? = c.slots[i]?) ∧ ((∀ w ∈ ws, w.1 ≠ x) → c' = c)
theorem KL.refl (h : Heap) (ws : List (Addr × Nat)) : KL h h ws := ⟨Nat.le_refl _, fun x c q => ⟨c, q, rfl, rfl, rfl, fun _ _ => rfl, fun _ => rfl⟩⟩
theorem KL.trans (K : KL h0 h ws) (K' : KL h h' ws') (q : ∀ w ∈ ws', w ∈ ws ∨ h0.size ≤ w.1) : KL h0 h' ws := by
  refine ⟨Nat.le_trans K.1 K'.1, fun x c hx => ?_⟩
  obtain ⟨c1, a1, a2, a3, a4, a5, a6⟩ := K.2 x c hx
  obtain ⟨c2, b1, b2, b3, b4, b5, b6⟩ := K'.2 x c1 a1
  have hlt : x < h0.size := (Array.getElem?_eq_some_iff.mp hx).1
  refine ⟨c2, b1, b2.trans a2, b3.trans a3, b4.trans a4, fun i hi => ?_, fun hn => ?_⟩
  · rw [b5 i fun hm => ?_]
    · exact a5 i hi
    · rcases q _ hm with u | u
      · exact hi u
      · exact absurd hlt (Nat.not_lt.mpr u)
  · rw [b6 fun w hw e => ?_]
    · exact a6 hn
    · rcases q w hw with u | u
      · exact hn w u e
      · subst e; exact absurd hlt (Nat.not_lt.mpr u)
theorem KL.ofE (E : Ext h h') : KL h h' [] := ⟨E.1, fun x c q => ⟨c, E.2 x c q, rfl, rfl, rfl, fun _ _ => rfl, fun _ => rfl⟩⟩
theorem KL.ofW (W : Wr h h' a sl v) : KL h h' [(a, sl)] := by
  refine ⟨Nat.le_of_eq W.size.symm, fun x c q => ?_⟩
  obtain ⟨c', e1, e2, e3, e4, e5, e6, -⟩ := wr_at W q
  refine ⟨c', e1, e2, e3, e4, fun i hi => ?_, fun hn => e5 fun e => hn _ (List.mem_singleton.mpr rfl) e.symm⟩
  by_cases ex : x = a
  · subst ex; exact e6 i fun ei => hi (by rw [ei]; exact List.mem_singleton.mpr rfl)
  · rw [e5 ex]
theorem KL.ofEq (q : h' = h) : KL h h' [] := q ▸ KL.refl h []
theorem nw0 {x : Addr × Nat} : x ∉ ([] : List (Addr × Nat)) := fun q => nomatch q
theorem nwS {i i' : Nat} {L : List (Addr × Nat)} (q : a ≠ b ∨ i ≠ i') (r : (a, i) ∉ L) : (a, i) ∉ (b, i') :: L := fun y => by
  rcases List.mem_cons.mp y with u | u
  · obtain ⟨u1, u2⟩ := Prod.mk.inj u; exact q.elim (fun f => f u1) (fun f => f u2)
  · exact r u
theorem na0 {P : Addr × Nat → Prop} : ∀ w ∈ ([] : List (Addr × Nat)), P w := fun _ q => nomatch q
theorem naS {P : Addr × Nat → Prop} {x : Addr × Nat} {L : List (Addr × Nat)} (q : P x) (r : ∀ w ∈ L, P w) : ∀ w ∈ x :: L, P w := fun w y => by
  rcases List.mem_cons.mp y with u | u
  · exact u ▸ q
  · exact r w u
theorem kFld (K : KL h h' ws) (F : Fld Z h a C nm dd v) (q : (a, Jvm.RoadKit.slotOf Z C nm dd) ∉ ws) : Fld Z h' a C nm dd v := by
  obtain ⟨cell, cf, k, i, f, h1, h2, h3, h4, h5, h6, h7⟩ := F
  obtain ⟨c', e1, e2, e3, -, e5, -⟩ := K.2 a cell h1
  refine ⟨c', cf, k, i, f, e1, h2, h3, by rw [e3]; exact h4, by rw [e3]; exact h5, by rw [e2]; exact h6, ?_⟩
  rw [e5 f.slot (by simpa [Jvm.RoadKit.slotOf, h2] using q)]; exact h7
theorem kExa (K : KL h h' ws) (F : Exa Z h a C) : Exa Z h' a C := by
  obtain ⟨cell, k, h1, h2, h3, h4, h5⟩ := F
  obtain ⟨c', e1, e2, e3, e4, -⟩ := K.2 a cell h1
  exact ⟨c', k, e1, by rw [e2]; exact h2, by rw [e2]; exact h3, by rw [e3]; exact h4, by rw [e4]; exact h5⟩
theorem kArv (K : KL h h' ws) (F : Arv Z h a k ty z vs dv) (q : ∀ w ∈ ws, w.1 ≠ a) : Arv Z h' a k ty z vs dv := by
  obtain ⟨c, A, r⟩ := F
  obtain ⟨c', e1, -, -, -, -, e6⟩ := K.2 a c A.1
  exact ⟨c, ⟨(e6 q) ▸ e1, A.2⟩, r⟩
theorem kOld (K : KL h h' ws) (O : Old Z n0 h) (q : ∀ w ∈ ws, n0 ≤ w.1) : Old Z n0 h' := by
  refine ⟨O.1, Nat.le_trans O.2.1 K.1, fun x c hx => ?_⟩
  obtain ⟨c', e1, -, -, -, -, e6⟩ := K.2 x c (O.2.2 x c hx)
  have hlt : x < n0 := O.1 ▸ (Array.getElem?_eq_some_iff.mp hx).1
  rw [← e6 fun w hw e => absurd hlt (Nat.not_lt.mpr (e ▸ q w hw))]; exact e1
theorem lt_ne (q : a < h.size) (r : h.size ≤ b) : a ≠ b := Nat.ne_of_lt (Nat.lt_of_lt_of_le q r)
theorem own_wr {g : JFrame} {rest : List Value} {W : Nat} (q : g.monitorRoom = 0) (r : (rest.map fun v => v.category).sum = W) : 2 * g.monitorRoom + (rest.map fun v => v.category).sum ≤ W := by rw [q, r]; omega
theorem naO {x : Addr × Nat} {L : List (Addr × Nat)} (q : x ∈ ws ∨ sl ≤ x.1) (r : ∀ w ∈ L, w ∈ ws ∨ sl ≤ w.1) : ∀ w ∈ x :: L, w ∈ ws ∨ sl ≤ w.1 := naS (P := fun w => w ∈ ws ∨ sl ≤ w.1) q r
theorem naN {x : Addr × Nat} {L : List (Addr × Nat)} (q : x.1 ≠ a) (r : ∀ w ∈ L, w.1 ≠ a) : ∀ w ∈ x :: L, w.1 ≠ a := naS (P := fun w => w.1 ≠ a) q r
theorem own_mi {x : Addr × Nat} (i : Nat) (q : ws[i]? = some x) : x ∈ ws ∨ sl ≤ x.1 := Or.inl (List.mem_of_getElem? q)
theorem naB {P : Addr → Prop} {L : List (Addr × Nat)} (n : Nat) (e : (List.range n).map (fun i => (b, i)) = L) (q : P b) : ∀ w ∈ L, P w.1 := fun w hw => by
  rw [← e] at hw
  obtain ⟨i, -, rfl⟩ := List.mem_map.mp hw
  exact q
theorem naNB {L : List (Addr × Nat)} (n : Nat) (e : (List.range n).map (fun i => (b, i)) = L) (q : b ≠ a) : ∀ w ∈ L, w.1 ≠ a := naB (P := fun x => x ≠ a) n e q
theorem naOB {L : List (Addr × Nat)} (n : Nat) (e : (List.range n).map (fun i => (b, i)) = L) (q : sl ≤ b) : ∀ w ∈ L, w ∈ ws ∨ sl ≤ w.1 := fun w hw => Or.inr (naB (P := fun x => sl ≤ x) n e q w hw)
theorem nwB {i : Nat} {L : List (Addr × Nat)} (n : Nat) (e : (List.range n).map (fun i => (b, i)) = L) (q : a ≠ b) : (a, i) ∉ L := fun y => naB (P := fun x => x ≠ a) n e q.symm _ y rfl
theorem naM {Q : Addr × Nat → Prop} {L : List (Addr × Nat)} (n : Nat) (e : (L.take n).map Prod.fst = List.replicate n b) (q : ∀ i, Q (b, i)) (r : ∀ w ∈ L.drop n, Q w) : ∀ w ∈ L, Q w := fun w hw => by
  rw [← List.take_append_drop n L] at hw
  rcases List.mem_append.mp hw with u | u
  · have h1 := List.mem_map_of_mem (f := Prod.fst) u
    rw [e] at h1
    have h2 := List.eq_of_mem_replicate h1
    obtain ⟨x, i⟩ := w
    have h3 : x = b := h2
    rw [h3]; exact q i
  · exact r w u
theorem naNM {L : List (Addr × Nat)} (n : Nat) (e : (L.take n).map Prod.fst = List.replicate n b) (q : b ≠ a) (r : ∀ w ∈ L.drop n, w.1 ≠ a) : ∀ w ∈ L, w.1 ≠ a := naM (Q := fun w => w.1 ≠ a) n e (fun _ => q) r
theorem naOM {L : List (Addr × Nat)} (n : Nat) (e : (L.take n).map Prod.fst = List.replicate n b) (q : sl ≤ b) (r : ∀ w ∈ L.drop n, w ∈ ws ∨ sl ≤ w.1) : ∀ w ∈ L, w ∈ ws ∨ sl ≤ w.1 := naM (Q := fun w => w ∈ ws ∨ sl ≤ w.1) n e (fun _ => Or.inr q) r
theorem naGM {L : List (Addr × Nat)} (n : Nat) (e : (L.take n).map Prod.fst = List.replicate n b) (q : sl ≤ b) (r : ∀ w ∈ L.drop n, sl ≤ w.1) : ∀ w ∈ L, sl ≤ w.1 := naM (Q := fun w => sl ≤ w.1) n e (fun _ => q) r
theorem nwM {i : Nat} {L : List (Addr × Nat)} (n : Nat) (e : (L.take n).map Prod.fst = List.replicate n b) (q : a ≠ b) (r : (a, i) ∉ L.drop n) : (a, i) ∉ L := fun y => naM (Q := fun w => w ≠ (a, i)) n e (fun _ z => q (Prod.mk.inj z).1.symm) (fun w hw z => r (z ▸ hw)) _ y rfl
theorem own_retJ (X : Stand p l e R s m args below meth c T locs cells slots) (hx : p.tables.exec = Jvm.exec) {pc : Nat} {Ls : Array Slot} {z : Int64} {rest : List Value} (hret : meth.sig.returnType = some .long) (hd : decode c.code pc = .ok (.lreturn, 1)) {fs : List Frame}
    (hl : ∀ (f : JFrame) (acts : List Action), f.method = m → f.locked = none → f.entered = [] → (doReturn e (T.setTop f) acts (some (.long z))).1 = T.setFrames fs) : Steps p.tables e below (T.setTop (mkF m pc Ls (.long z :: rest))) (T.setFrames fs) := by
  have hm' : T.vm.method? m = some meth := X.method'
  show Steps p.tables e below (T.setTop { method := m, pc := pc, locals := Ls, stack := _ :: rest, locked := none }) _
  jvm_step X.here [X.here.top, hx, hd, hm', hret, narrow]
  first | (intro acts; rw [hl _ acts rfl rfl rfl]) | rw [hl _ _ rfl rfl rfl]
  exact Steps.refl _
theorem own_retD (X : Stand p l e R s m args below meth c T locs cells slots) (hx : p.tables.exec = Jvm.exec) {pc : Nat} {Ls : Array Slot} {z : UInt64} {rest : List Value} (hret : meth.sig.returnType = some .double) (hd : decode c.code pc = .ok (.dreturn, 1)) {fs : List Frame}
    (hl : ∀ (f : JFrame) (acts : List Action), f.method = m → f.locked = none → f.entered = [] → (doReturn e (T.setTop f) acts (some (.double z))).1 = T.setFrames fs) : Steps p.tables e below (T.setTop (mkF m pc Ls (.double z :: rest))) (T.setFrames fs) := by
  have hm' : T.vm.method? m = some meth := X.method'
  show Steps p.tables e below (T.setTop { method := m, pc := pc, locals := Ls, stack := _ :: rest, locked := none }) _
  jvm_step X.here [X.here.top, hx, hd, hm', hret, narrow]
  first | (intro acts; rw [hl _ acts rfl rfl rfl]) | rw [hl _ _ rfl rfl rfl]
  exact Steps.refl _
theorem own_nf {x0 y0 y : MethodName} (w : (Cond.selects C x0 y0).before args s = true) (hyy : y0.cls = y.cls) : NotFace s y := fun r0 h0 => by
  obtain ⟨_, _, m2, -, -, q3, -, kr, hkr, hni⟩ := Cond.selects_spec w
  have hc2 := findClass_of_methodNamed q3
  rw [hyy, findClass_of_methodNamed h0] at hc2
  rw [← Option.some.inj hc2] at hkr
  exact ⟨kr, hkr, hni⟩
theorem own_nsR {O K : String} {n : Nat} (w : (Cond.noSuperclass O).before a0 Z = true) (wk : (Cond.instantiable K n).before a0 Z = true) (hn : O ≠ K) : NS Z O K := by
  obtain ⟨c, k, h1, h2, h3, -, -⟩ := Cond.noSuperclass_spec w
  obtain ⟨t, k', g1, -⟩ := Cond.instantiable_spec wk
  have ne := ids_ne h1 g1 hn
  refine ⟨c, t, h1, g1, fun fuel => ?_⟩
  cases fuel with
  | zero => rfl
  | succ f => simp [Vm.isSubclassAux, ne, h2, h3]
theorem own_nsN {S K : String} {n : Nat} (w : (Cond.superclass C S).before a0 Z = true) (wk : (Cond.instantiable K n).before a0 Z = true) (q : NS Z C K) (hn : C ≠ K) : ∃ c t, Z.vm.findClass C = some c ∧ Z.vm.findClass K = some t ∧ Z.vm.assignable c t = false := by
  obtain ⟨c, t, h0, g0, n3⟩ := q
  obtain ⟨p, k, kp, h1, h2, h3, h4, h5, -, h7⟩ := Cond.superclass_spec h0 w
  obtain ⟨t', k', g1, g2, g5, g7, -⟩ := Cond.instantiable_spec wk
  cases g0.symm.trans g1
  have g8 : k'.isInterface = false := by
    cases hi : k'.isInterface with
    | false => rfl
    | true => simp [hi] at g7
  have ne := ids_ne h0 g0 hn
  refine ⟨c, t, h0, g0, ?_⟩
  show Z.vm.assignableAux (255 + 1) c t = false
  simp [Vm.assignableAux, ne, h2, g2, h5, g5, g8, Vm.isSubclass, n3]
theorem own_static (X : Stand p l e R s m args below meth c T locs cells slots) (hx : p.tables.exec = Jvm.exec) (hZ : Z.Warmed39 s.vm) {own : String} {index : Nat} {y : MethodName} {bytes : ByteArray} {maxL : Nat} {ret : Option FieldType} {rm : Room} {Q : Option Value → Heap → List Loc → Prop} {as' : Array Value}
    (hown : s.vm.findClass own = some m.cls) (w1 : (Cond.methodLink own index y).before a0 Z = true) (w2 : (Cond.static y).before a0 Z = true) (w3 : (Cond.initialized y.cls).before a0 Z = true) (w4 : (Cond.code y bytes maxL ret).before a0 Z = true) (hy : y.cls ≠ "java/lang/invoke/MethodHandle" ∧ y.cls ≠ "java/lang/invoke/VarHandle")
    (hM : MetFree l y (head1 [Cond.code y bytes maxL ret] rm) (fun a U => a = as' ∧ Z.Warmed39 U.vm ∧ U.heap = h) (fun _ _ _ _ _ => True) (fun _ U o U' => ∃ v L, o = .returned v ∧ Q v U'.heap L ∧ FrameEnd U o U' L rm.cells rm.slots))
    (eT : T.heap = h) {W : Nat} (hR : rm.frames + 1 ≤ R.frames ∧ W + (maxL + 11) + rm.locals ≤ R.locals ∧ cells + rm.cells ≤ R.cells ∧ slots + rm.slots ≤ R.slots)
    {g : JFrame} (hg : g.method = m) (hsize : g.locals.size = c.maxLocals) {argsL rest : List Value} (hlen : ∀ sig, parseMethodDescriptor y.desc = some sig → argsL.length = sig.parameters.length) (hstack : g.stack = argsL.reverse ++ rest) (has : argsL.toArray = as') (hW : 2 * g.monitorRoom + (rest.map fun v => v.category).sum ≤ W) (hd : decode c.code g.pc = .ok (.invokestatic index, 3)) :
    ∃ (v : Option Value) (T' : State) (L : List Loc), Stand p l e R s m args below meth c T' (locs ++ L) (cells + rm.cells) (slots + rm.slots) ∧ Q v T'.heap L ∧ ∀ target, Steps p.tables e below (T'.setTop { g with pc := g.pc + 3, stack := v.toList ++ rest }) target → Steps p.tables e below (T.setTop g) target := by
  obtain ⟨v, _, ⟨T', L', k', n'⟩, -, X', ⟨L, hQ, l1, l2, l3⟩, st⟩ := Jvm.LawKit.callS X hx (y := y) hown (mvT hZ w1) (mvT hZ w2) (mvT hZ w3) (mvT hZ w4) hy (backOf (W := W) hM hZ w4 w3 hR.1 hR.2.1) (g := g) hg hsize (argsL := argsL) (rest := rest) hlen hstack hW hd (fun _ _ => ⟨has, eT, hR.2.2.1, hR.2.2.2⟩)
  dsimp only [Pt.U, Pt.locs, Pt.cells, Pt.slots] at X' l1 l2 l3 st hQ
  subst l1 l2 l3
  exact ⟨v, T', L, X', hQ, st⟩
theorem own_init (X : Stand p l e R s m args below meth c T locs cells slots) (hx : p.tables.exec = Jvm.exec) (hZ : Z.Warmed39 s.vm) {own : String} {index : Nat} {y : MethodName} {bytes : ByteArray} {maxL : Nat} {rm : Room} {Q : Option Value → Heap → List Loc → Prop} {as' : Array Value} (hy1 : y.name = "<init>")
    (hown : s.vm.findClass own = some m.cls) (w1 : (Cond.methodLink own index y).before a0 Z = true) (w2 : (Cond.instanceMethod y).before a0 Z = true) (w3 : (Cond.initialized y.cls).before a0 Z = true) (w4 : (Cond.code y bytes maxL none).before a0 Z = true) (hy : y.cls ≠ "java/lang/invoke/MethodHandle" ∧ y.cls ≠ "java/lang/invoke/VarHandle")
    (hM : MetFree l y (head1 [Cond.code y bytes maxL none] rm) (fun a U => a = as' ∧ Z.Warmed39 U.vm ∧ U.heap = h) (fun _ _ _ _ _ => True) (fun _ U o U' => ∃ v L, o = .returned v ∧ Q v U'.heap L ∧ FrameEnd U o U' L rm.cells rm.slots))
    (eT : T.heap = h) {W : Nat} (hR : rm.frames + 1 ≤ R.frames ∧ W + (maxL + 11) + rm.locals ≤ R.locals ∧ cells + rm.cells ≤ R.cells ∧ slots + rm.slots ≤ R.slots)
    {g : JFrame} (hg : g.method = m) (hsize : g.locals.size = c.maxLocals) {argsL rest : List Value} (hlen : ∀ sig, parseMethodDescriptor y.desc = some sig → argsL.length = sig.parameters.length) (hstack : g.stack = argsL.reverse ++ .ref a :: rest) (has : (.ref a :: argsL).toArray = as') (hW : 2 * g.monitorRoom + (rest.map fun v => v.category).sum ≤ W) (hd : decode c.code g.pc = .ok (.invokespecial index, 3)) :
    ∃ (v : Option Value) (T' : State) (L : List Loc), Stand p l e R s m args below meth c T' (locs ++ L) (cells + rm.cells) (slots + rm.slots) ∧ Q v T'.heap L ∧ ∀ target, Steps p.tables e below (T'.setTop { g with pc := g.pc + 3, stack := v.toList ++ rest }) target → Steps p.tables e below (T.setTop g) target := by
  obtain ⟨v, _, ⟨T', L', k', n'⟩, -, X', ⟨L, hQ, l1, l2, l3⟩, st⟩ := X.specialBack hx (y := y) hy1 hown (mvT hZ w1) (mvT hZ w2) (mvT hZ w4) hy (backOf (W := W) hM hZ w4 w3 hR.1 hR.2.1) (g := g) hg hsize (Steps.refl _) (a := a) (argsL := argsL) (rest := rest) hlen hstack hW hd (fun _ _ => ⟨has, eT, hR.2.2.1, hR.2.2.2⟩)
  dsimp only [Pt.U, Pt.locs, Pt.cells, Pt.slots] at X' l1 l2 l3 st hQ
  subst l1 l2 l3
  exact ⟨v, T', L, X', hQ, fun _ t => st.trans t⟩
theorem own_virtual (X : Stand p l e R s m args below meth c T locs cells slots) (hx : p.tables.exec = Jvm.exec) (hZ : Z.Warmed39 s.vm) {own : String} {index : Nat} {y z : MethodName} {bytes : ByteArray} {maxL : Nat} {ret : Option FieldType} {rm : Room} {Q : Option Value → Heap → List Loc → Prop} {as' : Array Value}
    (hown : s.vm.findClass own = some m.cls) (w1 : (Cond.methodLink own index y).before a0 Z = true) (w2 : (Cond.declares y).before a0 Z = true) (hnf : NotFace s y) (w5 : (Cond.selects C y z).before a0 Z = true) (w6 : (Cond.instanceMethod z).before a0 Z = true) (w3 : (Cond.initialized z.cls).before a0 Z = true) (w4 : (Cond.code z bytes maxL ret).before a0 Z = true) (hy : y.cls ≠ "java/lang/invoke/MethodHandle" ∧ y.cls ≠ "java/lang/invoke/VarHandle")
    (hM : MetFree l z (head1 [Cond.code z bytes maxL ret] rm) (fun a U => a = as' ∧ Z.Warmed39 U.vm ∧ U.heap = h) (fun _ _ _ _ _ => True) (fun _ U o U' => ∃ v L, o = .returned v ∧ Q v U'.heap L ∧ FrameEnd U o U' L rm.cells rm.slots))
    (eT : T.heap = h) (E : Exa Z h a C) {W : Nat} (hR : rm.frames + 1 ≤ R.frames ∧ W + (maxL + 11) + rm.locals ≤ R.locals ∧ cells + rm.cells ≤ R.cells ∧ slots + rm.slots ≤ R.slots)
    {g : JFrame} (hg : g.method = m) (hsize : g.locals.size = c.maxLocals) {argsL rest : List Value} (hlen : ∀ sig, parseMethodDescriptor y.desc = some sig → argsL.length = sig.parameters.length) (hstack : g.stack = argsL.reverse ++ .ref a :: rest) (has : (.ref a :: argsL).toArray = as') (hW : 2 * g.monitorRoom + (rest.map fun v => v.category).sum ≤ W) (hd : decode c.code g.pc = .ok (.invokevirtual index, 3)) :
    ∃ (v : Option Value) (T' : State) (L : List Loc), Stand p l e R s m args below meth c T' (locs ++ L) (cells + rm.cells) (slots + rm.slots) ∧ Q v T'.heap L ∧ ∀ target, Steps p.tables e below (T'.setTop { g with pc := g.pc + 3, stack := v.toList ++ rest }) target → Steps p.tables e below (T.setTop g) target := by
  obtain ⟨cq, kq, qa, qb, qc⟩ := isOf hZ eT E
  obtain ⟨v, _, ⟨T', L', k', n'⟩, -, X', ⟨L, hQ, l1, l2, l3⟩, st⟩ := X.virtualBack hx (y := y) (z := z) hown (mvT hZ w1) (mvT hZ w2) hnf (mvT hZ w5) (mvT hZ w6) hy (backOf (W := W) hM hZ w4 w3 hR.1 hR.2.1) qa qc (g := g) hg hsize (Steps.refl _) (argsL := argsL) (rest := rest) hlen hstack hW hd (fun _ _ => ⟨has, eT, hR.2.2.1, hR.2.2.2⟩)
  dsimp only [Pt.U, Pt.locs, Pt.cells, Pt.slots] at X' l1 l2 l3 st hQ
  subst l1 l2 l3
  exact ⟨v, T', L, X', hQ, fun _ t => st.trans t⟩
theorem own_private (X : Stand p l e R s m args below meth c T locs cells slots) (hx : p.tables.exec = Jvm.exec) (hZ : Z.Warmed39 s.vm) {own : String} {index : Nat} {y x0 y0 : MethodName} {bytes : ByteArray} {maxL : Nat} {ret : Option FieldType} {rm : Room} {Q : Option Value → Heap → List Loc → Prop} {as' : Array Value}
    (hown : s.vm.findClass own = some m.cls) (w1 : (Cond.methodLink own index y).before a0 Z = true) (w6 : (Cond.instanceMethod y).before a0 Z = true) (w5 : (Cond.selects C x0 y0).before a0 Z = true) (hyy : y0.cls = y.cls) (w7 : (Cond.privateMethod y).before a0 Z = true) (w3 : (Cond.initialized y.cls).before a0 Z = true) (w4 : (Cond.code y bytes maxL ret).before a0 Z = true) (hy : y.cls ≠ "java/lang/invoke/MethodHandle" ∧ y.cls ≠ "java/lang/invoke/VarHandle")
    (hM : MetFree l y (head1 [Cond.code y bytes maxL ret] rm) (fun a U => a = as' ∧ Z.Warmed39 U.vm ∧ U.heap = h) (fun _ _ _ _ _ => True) (fun _ U o U' => ∃ v L, o = .returned v ∧ Q v U'.heap L ∧ FrameEnd U o U' L rm.cells rm.slots))
    (eT : T.heap = h) (E : Exa Z h a nm) {W : Nat} (hR : rm.frames + 1 ≤ R.frames ∧ W + (maxL + 11) + rm.locals ≤ R.locals ∧ cells + rm.cells ≤ R.cells ∧ slots + rm.slots ≤ R.slots)
    {g : JFrame} (hg : g.method = m) (hsize : g.locals.size = c.maxLocals) {argsL rest : List Value} (hlen : ∀ sig, parseMethodDescriptor y.desc = some sig → argsL.length = sig.parameters.length) (hstack : g.stack = argsL.reverse ++ .ref a :: rest) (has : (.ref a :: argsL).toArray = as') (hW : 2 * g.monitorRoom + (rest.map fun v => v.category).sum ≤ W) (hd : decode c.code g.pc = .ok (.invokevirtual index, 3)) :
    ∃ (v : Option Value) (T' : State) (L : List Loc), Stand p l e R s m args below meth c T' (locs ++ L) (cells + rm.cells) (slots + rm.slots) ∧ Q v T'.heap L ∧ ∀ target, Steps p.tables e below (T'.setTop { g with pc := g.pc + 3, stack := v.toList ++ rest }) target → Steps p.tables e below (T.setTop g) target := by
  obtain ⟨cell, _, qa, -, -, qc, -⟩ := E
  obtain ⟨mk, methM, hnamed, hmethM, -, -⟩ := Cond.instanceMethod_spec (mvT hZ w6 : (Cond.instanceMethod y).before args _ = true)
  obtain ⟨_, _, m2, -, -, q3, -, kr, hkr, hni⟩ := Cond.selects_spec (mvT hZ w5 : (Cond.selects C x0 y0).before args _ = true)
  have hc2 := findClass_of_methodNamed q3
  rw [hyy] at hc2
  have hpr := Cond.privateMethod_at (mvT hZ w7 : (Cond.privateMethod y).before args _ = true)
  have hsel := Jvm.Stand.selects_self_of_private (args := args) hc2 hkr hni hpr (mvT hZ w6) hy
  obtain ⟨v, _, ⟨T', L', k', n'⟩, -, X', ⟨L, hQ, l1, l2, l3⟩, st⟩ := X.privateBack hx (y := y) hown (mvT hZ w1) (mvT hZ w6) hsel hpr (mvT hZ w4) hy (backOf (W := W) hM hZ w4 w3 hR.1 hR.2.1) (g := g) hg hsize (Steps.refl _) (a := a) (cell := cell) (by rw [eT]; exact qa) (fun q eq => by rw [eq] at qc; exact absurd qc (by simp [VmData.isStatics])) (argsL := argsL) (rest := rest) hlen hstack hW hd (fun _ _ => ⟨has, eT, hR.2.2.1, hR.2.2.2⟩)
  dsimp only [Pt.U, Pt.locs, Pt.cells, Pt.slots] at X' l1 l2 l3 st hQ
  subst l1 l2 l3
  exact ⟨v, T', L, X', hQ, fun _ t => st.trans t⟩
theorem own_super (X : Stand p l e R s m args below meth c T locs cells slots) (hx : p.tables.exec = Jvm.exec) (hZ : Z.Warmed39 s.vm) {own : String} {index : Nat} {y x0 y0 : MethodName} {bytes : ByteArray} {maxL : Nat} {ret : Option FieldType} {rm : Room} {Q : Option Value → Heap → List Loc → Prop} {as' : Array Value}
    (hown : s.vm.findClass own = some m.cls) (w1 : (Cond.methodLink own index y).before a0 Z = true) (w6 : (Cond.instanceMethod y).before a0 Z = true) (w5 : (Cond.selects C x0 y0).before a0 Z = true) (hyy : y0.cls = y.cls) (w8 : (Cond.superclass own y.cls).before a0 Z = true) (hyn : y.name ≠ "<init>") (w3 : (Cond.initialized y.cls).before a0 Z = true) (w4 : (Cond.code y bytes maxL ret).before a0 Z = true) (hy : y.cls ≠ "java/lang/invoke/MethodHandle" ∧ y.cls ≠ "java/lang/invoke/VarHandle")
    (hM : MetFree l y (head1 [Cond.code y bytes maxL ret] rm) (fun a U => a = as' ∧ Z.Warmed39 U.vm ∧ U.heap = h) (fun _ _ _ _ _ => True) (fun _ U o U' => ∃ v L, o = .returned v ∧ Q v U'.heap L ∧ FrameEnd U o U' L rm.cells rm.slots))
    (eT : T.heap = h) (E : Exa Z h a nm) {W : Nat} (hR : rm.frames + 1 ≤ R.frames ∧ W + (maxL + 11) + rm.locals ≤ R.locals ∧ cells + rm.cells ≤ R.cells ∧ slots + rm.slots ≤ R.slots)
    {g : JFrame} (hg : g.method = m) (hsize : g.locals.size = c.maxLocals) {argsL rest : List Value} (hlen : ∀ sig, parseMethodDescriptor y.desc = some sig → argsL.length = sig.parameters.length) (hstack : g.stack = argsL.reverse ++ .ref a :: rest) (has : (.ref a :: argsL).toArray = as') (hW : 2 * g.monitorRoom + (rest.map fun v => v.category).sum ≤ W) (hd : decode c.code g.pc = .ok (.invokespecial index, 3)) :
    ∃ (v : Option Value) (T' : State) (L : List Loc), Stand p l e R s m args below meth c T' (locs ++ L) (cells + rm.cells) (slots + rm.slots) ∧ Q v T'.heap L ∧ ∀ target, Steps p.tables e below (T'.setTop { g with pc := g.pc + 3, stack := v.toList ++ rest }) target → Steps p.tables e below (T.setTop g) target := by
  obtain ⟨mk, methM, hnamed, hmethM, -, -⟩ := Cond.instanceMethod_spec w6
  obtain ⟨_, _, m2, -, -, q3, -, kr, hkr, hni⟩ := Cond.selects_spec w5
  have hc2 := findClass_of_methodNamed q3
  rw [hyy, findClass_of_methodNamed hnamed] at hc2
  rw [← Option.some.inj hc2] at hkr
  have w2 : (Cond.sameMethod y.cls y.cls y.name y.desc).before a0 Z = true := by
    simp [Cond.before, Cond.holds, Cond.value, findClass_of_methodNamed hnamed, State.methodFound?_of_named hnamed hy, hnamed, hkr, hni]
  obtain ⟨v, _, ⟨T', L', k', n'⟩, -, X', ⟨L, hQ, l1, l2, l3⟩, st⟩ := superBack X hx hZ (y := y) hown w1 w2 w6 w8 hyn (backOf (W := W) hM hZ w4 w3 hR.1 hR.2.1) eT (Ins.self E) (g := g) hg hsize w4 (argsL := argsL) (rest := rest) hlen hstack hW hd (fun _ _ => ⟨has, eT, hR.2.2.1, hR.2.2.2⟩)
  dsimp only [Pt.U, Pt.locs, Pt.cells, Pt.slots] at X' l1 l2 l3 st hQ
  subst l1 l2 l3
  exact ⟨v, T', L, X', hQ, fun _ t => st.trans t⟩
theorem own_face (X : Stand p l e R s m args below meth c T locs cells slots) (hx : p.tables.exec = Jvm.exec) (hZ : Z.Warmed39 s.vm) {own : String} {index count : Nat} {y z : MethodName} {bytes : ByteArray} {maxL : Nat} {ret : Option FieldType} {rm : Room} {Q : Option Value → Heap → List Loc → Prop} {as' : Array Value}
    (hown : s.vm.findClass own = some m.cls) (w1 : (Cond.methodLink own index y).before a0 Z = true) (w2 : (Cond.declares y).before a0 Z = true) (wf : (Cond.interfaceMethod y.cls y.cls y.name y.desc).before args s = true) (w5 : (Cond.selects C y z).before a0 Z = true) (w6 : (Cond.instanceMethod z).before a0 Z = true) (w7 : (Cond.publicMethod z).before a0 Z = true) (w8 : (Cond.unhidden C y.name y.desc).before a0 Z = true) (w9 : (Cond.castable C y.cls).before a0 Z = true) (w3 : (Cond.initialized z.cls).before a0 Z = true) (w4 : (Cond.code z bytes maxL ret).before a0 Z = true) (hy : y.cls ≠ "java/lang/invoke/MethodHandle" ∧ y.cls ≠ "java/lang/invoke/VarHandle")
    (hM : MetFree l z (head1 [Cond.code z bytes maxL ret] rm) (fun a U => a = as' ∧ Z.Warmed39 U.vm ∧ U.heap = h) (fun _ _ _ _ _ => True) (fun _ U o U' => ∃ v L, o = .returned v ∧ Q v U'.heap L ∧ FrameEnd U o U' L rm.cells rm.slots))
    (eT : T.heap = h) (E : Exa Z h a C) {W : Nat} (hR : rm.frames + 1 ≤ R.frames ∧ W + (maxL + 11) + rm.locals ≤ R.locals ∧ cells + rm.cells ≤ R.cells ∧ slots + rm.slots ≤ R.slots)
    {g : JFrame} (hg : g.method = m) (hsize : g.locals.size = c.maxLocals) {argsL rest : List Value} (hlen : ∀ sig, parseMethodDescriptor y.desc = some sig → argsL.length = sig.parameters.length) (hstack : g.stack = argsL.reverse ++ .ref a :: rest) (has : (.ref a :: argsL).toArray = as') (hW : 2 * g.monitorRoom + (rest.map fun v => v.category).sum ≤ W) (hd : decode c.code g.pc = .ok (.invokeinterface index count, 5)) :
    ∃ (v : Option Value) (T' : State) (L : List Loc), Stand p l e R s m args below meth c T' (locs ++ L) (cells + rm.cells) (slots + rm.slots) ∧ Q v T'.heap L ∧ ∀ target, Steps p.tables e below (T'.setTop { g with pc := g.pc + 5, stack := v.toList ++ rest }) target → Steps p.tables e below (T.setTop g) target := by
  obtain ⟨cq, kq, qa, qb, qc⟩ := isOf hZ eT E
  obtain ⟨v, _, ⟨T', L', k', n'⟩, -, X', ⟨L, hQ, l1, l2, l3⟩, st⟩ := X.interfaceBack hx (xi := y) (y := z) hown (mvT hZ w1) (mvT hZ w2) wf (mvT hZ w5) (mvT hZ w6) (mvT hZ w7) (mvT hZ w8) (mvT hZ w9) hy (backOf (W := W) hM hZ w4 w3 hR.1 hR.2.1) qa qb qc (g := g) hg hsize (Steps.refl _) (argsL := argsL) (rest := rest) hlen hstack hW hd (fun _ _ => ⟨has, eT, hR.2.2.1, hR.2.2.2⟩)
  dsimp only [Pt.U, Pt.locs, Pt.cells, Pt.slots] at X' l1 l2 l3 st hQ
  subst l1 l2 l3
  exact ⟨v, T', L, X', hQ, fun _ t => st.trans t⟩
theorem own_mvR {U : State} {own O : String} {index : Nat} (hZ : Z.Warmed39 U.vm) (w : (Cond.fieldRef own index O nm dd).before a0 Z = true) : (Cond.fieldRef own index O nm dd).before args U = true := (Cond.fieldRef_warmed39 (s := Z) (vm' := U.vm) hZ w :)
theorem own_getFR (X : Stand p l e R s m args below meth c T locs cells slots) (hx : p.tables.exec = Jvm.exec) (hZ : Z.Warmed39 s.vm) {own O : String} {index : Nat} (hown : s.vm.findClass own = some m.cls) (w : (Cond.fieldRef own index O nm dd).before a0 Z = true)
    (eT : T.heap = h) (F : Fld Z h a O nm dd v) {g : JFrame} (hg : g.method = m) {rest : List Value} (hs : g.stack = .ref a :: rest) (hd : decode c.code g.pc = .ok (.getfield index, 3)) : ∃ T', Stand p l e R s m args below meth c T' locs cells slots ∧ T'.heap = h ∧ ∀ target, Steps p.tables e below (T'.setTop { g with pc := g.pc + 3, stack := v :: rest }) target → Steps p.tables e below (T.setTop g) target := by
  obtain ⟨cell, cf, k, i, f, h1, h2, h3, h4, -, -, h7⟩ := F
  have hZT : Z.Warmed39 T.vm := wtrans hZ X.warmed
  have hownT : T.vm.findClass own = some m.cls := by rw [X.warmed.alike.findClass]; exact hown
  obtain ⟨cf', k', i', f', g1, hready⟩ := Cond.fieldRef_spec hownT (own_mvR (args := args) hZT w)
  obtain ⟨k2, g2, -⟩ := State.fieldFound?_setVm (s := Z) hZT.alike h2
  cases (show T.fieldFound? O nm dd = _ from g2).symm.trans g1
  refine ⟨T, X, eT, fun target hrest => ?_⟩
  subst hg
  jvm_step X.here [hx, hd, getfield.wp_ready (e := e) (s := T) (f := g) X.here.top hready h3 hs (show T.heap[a]? = some cell by rw [eT]; exact h1) h4 h7]
  exact hrest
theorem own_putFR (X : Stand p l e R s m args below meth c T locs cells slots) (hx : p.tables.exec = Jvm.exec) (hZ : Z.Warmed39 s.vm) {own O : String} {index kk : Nat} (hown : s.vm.findClass own = some m.cls) (w : (Cond.fieldRef own index O nm dd).before a0 Z = true)
    (eT : T.heap = h) {old : Value} (F : Fld Z h a O nm dd old) (E : Exa Z h a C) (L : (Cond.lays C O nm dd).before a0 Z = true) (wi : (Cond.instantiable C kk).before a0 Z = true)
    (hty : parseFieldDescriptor dd = some ty) (hn : narrow ty v = v) (hf : fits ty v = true) {g : JFrame} (hg : g.method = m) {rest : List Value} (hs : g.stack = v :: .ref a :: rest) (hd : decode c.code g.pc = .ok (.putfield index, 3)) :
    ∃ T' h', Stand p l e R s m args below meth c T' (locs ++ [⟨a, Jvm.RoadKit.slotOf Z O nm dd⟩]) cells slots ∧ T'.heap = h' ∧ Wr h h' a (Jvm.RoadKit.slotOf Z O nm dd) v ∧ ∀ target, Steps p.tables e below (T'.setTop { g with pc := g.pc + 3, stack := rest }) target → Steps p.tables e below (T.setTop g) target := by
  obtain ⟨cell, cf, k, i, f, h1, h2, h3, h4, h5, -, h7⟩ := F
  obtain ⟨cell', kc, e1, e2, e3, -⟩ := E
  cases h1.symm.trans e1
  obtain ⟨c1, k1, cf1, kf1, i1, f1, a1, a2, a3, -, -, a6, -⟩ := Laid.spec (Or.inl L)
  cases h2.symm.trans a3
  cases e2.symm.trans a1
  obtain ⟨c2, k2, i1, i2, i3, -⟩ := Cond.instantiable_spec wi
  cases e2.symm.trans i1
  cases a2.symm.trans i2
  have ht := (State.fieldFound?_type h2 hty).2
  have hfit : Z.fitsSlot cell.cls cell.vm f.slot v = true := by
    have q : Z.slotType? cell.cls cell.vm f.slot = some ty := by
      simp only [State.slotType?, a2, Option.bind_eq_bind, Option.bind_some, i3]
      cases hq : cell.vm <;> first | (rw [hq] at h5; exact Bool.noConfusion h5) | (rw [a6, ht])
    simp [State.fitsSlot, q, hf]
  have hZT : Z.Warmed39 T.vm := wtrans hZ X.warmed
  have hfit' : T.fitsSlot cell.cls cell.vm f.slot v = true := by rw [← State.fitsSlot_setVm hZT.alike] at hfit; exact hfit
  have hfin : hasFlag f.accessFlags Acc.final = false := by
    obtain ⟨_, _, _, _, _, _, -, -, b3, -, b5, -⟩ := Cond.lays_spec L
    cases h2.symm.trans b3
    exact b5
  have hownT : T.vm.findClass own = some m.cls := by rw [X.warmed.alike.findClass]; exact hown
  obtain ⟨cf', k', i', f', g1, hready⟩ := Cond.fieldRef_spec hownT (own_mvR (args := args) hZT w)
  obtain ⟨k3, g2, -⟩ := State.fieldFound?_setVm (s := Z) hZT.alike h2
  cases (show T.fieldFound? O nm dd = _ from g2).symm.trans g1
  have hlt := (Array.getElem?_eq_some_iff.mp h7).1
  have es : Jvm.RoadKit.slotOf Z O nm dd = f.slot := by simp [Jvm.RoadKit.slotOf, h2]
  rw [es]
  obtain ⟨X', st⟩ := X.putfieldReady hx hready h3 (Or.inl hfin) (show T.heap[a]? = some cell by rw [eT]; exact h1) h4 hlt (by rw [ht]; exact hn) hfit' hg hs hd
  exact ⟨_, _, X', rfl, ⟨cell, h1, h5, hlt, by rw [← eT]; rfl⟩, st⟩
end Own
/-- a body's contract -/
abbrev MF (l : Launch) (Z : State) (y : MethodName) (bytes : ByteArray) (maxL : Nat) (ret : Option FieldType) (ws : List Jvm.Cond) (rm : Room) (as' : Array Value) (h0 : Heap) (Q : Option Value → Heap → List Loc → Prop) : Prop :=
  MetFree l y (head1 (Jvm.Cond.code y bytes maxL ret :: ws) rm) (fun a U => a = as' ∧ Z.Warmed39 U.vm ∧ U.heap = h0) (fun _ _ _ _ _ => True) (fun _ U o U' => ∃ v L, o = .returned v ∧ Q v U'.heap L ∧ FrameEnd U o U' L rm.cells rm.slots)
theorem own_body {l : Launch} {Z : State} {y : MethodName} {bytes : ByteArray} {maxL : Nat} {ret : Option FieldType} {ws : List Jvm.Cond} {rm : Room} {as' : Array Value} {h0 : Heap} {Q : Option Value → Heap → List Loc → Prop} {k n : Nat} {L0 : Array Slot} (hp : plainFor y = true) (hef : ∀ m, entryFrame m as' maxL = mkF m 0 L0 []) (hk : k ≤ rm.cells) (hn : n ≤ rm.slots)
    (H : ∀ (p : Program) (e : Env) (s : State) (m : MethodId) (below : List Frame) (meth : Method) (c : Code) (s₁ : State), p.tables.exec = Jvm.exec → c.code = bytes → c.maxLocals = maxL → s.vm.findClass y.cls = some m.cls → meth.name = y.name → meth.sig.returnType = ret → Z.Warmed39 s.vm → s.heap = h0 → s₁.heap = h0 → Stand p l e rm s m as' below meth c s₁ [] 0 0 →
      ∃ (T : State) (L : List Loc) (v : Option Value), Stand p l e rm s m as' below meth c T L k n ∧ (ret = none → v = none) ∧ Q v T.heap L ∧ ∀ fs, (∀ (f : JFrame) (acts : List Action), f.method = m → f.locked = none → f.entered = [] → (doReturn e (T.setTop f) acts v).1 = T.setFrames fs) → Steps p.tables e below (s₁.setTop (mkF m 0 L0 [])) (T.setFrames fs)) :
    MetFree l y (head1 (Jvm.Cond.code y bytes maxL ret :: ws) rm) (fun a U => a = as' ∧ Z.Warmed39 U.vm ∧ U.heap = h0) (fun _ _ _ _ _ => True) (fun _ U o U' => ∃ v L, o = .returned v ∧ Q v U'.heap L ∧ FrameEnd U o U' L k n) := by
  refine MetFree.of_bodySF hp hisR ?_
  intro p e s m args below meth c s₁ Bd hml0 hP hK
  obtain ⟨rfl, hZ, hh⟩ := hP
  have e0 : s₁.heap = h0 := by rw [← hh, Bd.state]; rfl
  have hnm := (name_of_methodNamed Bd.named Bd.method).1
  obtain ⟨T, L, v, X, hv, hQ, st⟩ := H p e s m below meth c s₁ Bd.exec Bd.bytes hml0 (findClass_of_methodNamed Bd.named) hnm Bd.returns hZ hh e0 (Stand.of_body Bd)
  obtain ⟨fs, hr, hrun, hended, hW, hsame⟩ := X.leave (v := v) (fun h => hv (Bd.returns.symm.trans h)) Bd.notSynchronized
  refine ⟨_, _, castTop (hef m) (st fs hr), hrun, hended, v, L, rfl, ?_, ⟨_, rfl⟩, hW, hsame⟩
  exact hQ
theorem own_law {l : Launch} {Z : State} {y : MethodName} {bytes : ByteArray} {maxL : Nat} {ret : Option FieldType} {ws : List Jvm.Cond} {rm : Room} {as' : Array Value} {h0 : Heap} {Q : Option Value → List Loc → Prop} {k n k' n' : Nat} {L0 : Array Slot} (hp : plainFor y = true) (hef : ∀ m, entryFrame m as' maxL = mkF m 0 L0 []) (hk : k ≤ k') (hn : n ≤ n')
    (H : ∀ (p : Program) (e : Env) (s : State) (m : MethodId) (below : List Frame) (meth : Method) (c : Code) (s₁ : State), p.tables.exec = Jvm.exec → c.code = bytes → c.maxLocals = maxL → s.vm.findClass y.cls = some m.cls → meth.name = y.name → meth.sig.returnType = ret → Z.Warmed39 s.vm → s.heap = h0 → s₁.heap = h0 → Stand p l e rm s m as' below meth c s₁ [] 0 0 →
      ∃ (T : State) (L : List Loc) (v : Option Value), Stand p l e rm s m as' below meth c T L k n ∧ (ret = none → v = none) ∧ Q v L ∧ ∀ fs, (∀ (f : JFrame) (acts : List Action), f.method = m → f.locked = none → f.entered = [] → (doReturn e (T.setTop f) acts v).1 = T.setFrames fs) → Steps p.tables e below (s₁.setTop (mkF m 0 L0 [])) (T.setFrames fs)) :
    MetFree l y (head1 (Jvm.Cond.code y bytes maxL ret :: ws) rm) (fun a U => a = as' ∧ Z.Warmed39 U.vm ∧ U.heap = h0) (fun _ _ _ _ _ => True) (fun _ U o U' => ∃ v L, o = .returned v ∧ Q v L ∧ FrameEnd U o U' L k' n') := by
  refine MetFree.of_bodySF hp hisR ?_
  intro p e s m args below meth c s₁ Bd hml0 hP hK
  obtain ⟨rfl, hZ, hh⟩ := hP
  have e0 : s₁.heap = h0 := by rw [← hh, Bd.state]; rfl
  have hnm := (name_of_methodNamed Bd.named Bd.method).1
  obtain ⟨T, L, v, X, hv, hQ, st⟩ := H p e s m below meth c s₁ Bd.exec Bd.bytes hml0 (findClass_of_methodNamed Bd.named) hnm Bd.returns hZ hh e0 (Stand.of_body Bd)
  obtain ⟨fs, hr, hrun, hended, hW, hsame⟩ := X.leave (v := v) (fun h => hv (Bd.returns.symm.trans h)) Bd.notSynchronized
  refine ⟨_, _, castTop (hef m) (st fs hr), hrun, hended, v, L, rfl, ?_, ⟨_, rfl⟩, hW, hsame.mono hk hn⟩
  exact hQ
theorem t_iloadN {tb : Tables} [Ours tb] {e : Env} {below : List Frame} {T target : State} {m : MethodId} {c : Code} {pc : Nat} {L : Array Slot} {S : List Value} {v : Int32} {k : Fin 4} (pc' : Nat) (h : At T m c below) (hx : tb.exec = Jvm.exec) (hd : decode c.code pc = .ok (.iload_n k, 1)) (hl : L[k.val]? = some (.val (.int v))) (hp : pc + 1 = pc') (hr : Steps tb e below (T.setTop (mkF m pc' L (.int v :: S))) target) : Steps tb e below (T.setTop (mkF m pc L (S))) target := by
  subst hp; exact XS.iloadN h hx rfl hd hl hr
theorem t_iload {tb : Tables} [Ours tb] {e : Env} {below : List Frame} {T target : State} {m : MethodId} {c : Code} {pc : Nat} {L : Array Slot} {S : List Value} {v : Int32} {k : Nat} (pc' : Nat) (h : At T m c below) (hx : tb.exec = Jvm.exec) (hd : decode c.code pc = .ok (.iload k, 2)) (hl : L[k]? = some (.val (.int v))) (hp : pc + 2 = pc') (hr : Steps tb e below (T.setTop (mkF m pc' L (.int v :: S))) target) : Steps tb e below (T.setTop (mkF m pc L (S))) target := by
  subst hp; exact XS.iload h hx rfl hd hl hr
theorem t_dloadN {tb : Tables} [Ours tb] {e : Env} {below : List Frame} {T target : State} {m : MethodId} {c : Code} {pc : Nat} {L : Array Slot} {S : List Value} {v : UInt64} {k : Fin 4} (pc' : Nat) (h : At T m c below) (hx : tb.exec = Jvm.exec) (hd : decode c.code pc = .ok (.dload_n k, 1)) (hl : L[k.val]? = some (.val (.double v))) (hp : pc + 1 = pc') (hr : Steps tb e below (T.setTop (mkF m pc' L (.double v :: S))) target) : Steps tb e below (T.setTop (mkF m pc L (S))) target := by
  subst hp; exact XS.dloadN h hx rfl hd hl hr
theorem t_dload {tb : Tables} [Ours tb] {e : Env} {below : List Frame} {T target : State} {m : MethodId} {c : Code} {pc : Nat} {L : Array Slot} {S : List Value} {v : UInt64} {k : Nat} (pc' : Nat) (h : At T m c below) (hx : tb.exec = Jvm.exec) (hd : decode c.code pc = .ok (.dload k, 2)) (hl : L[k]? = some (.val (.double v))) (hp : pc + 2 = pc') (hr : Steps tb e below (T.setTop (mkF m pc' L (.double v :: S))) target) : Steps tb e below (T.setTop (mkF m pc L (S))) target := by
  subst hp; exact XS.dload h hx rfl hd hl hr
theorem t_istoreN {tb : Tables} [Ours tb] {e : Env} {below : List Frame} {T target : State} {m : MethodId} {c : Code} {pc : Nat} {L : Array Slot} {S : List Value} {v : Int32} {k : Fin 4} {L' : Array Slot} (pc' : Nat) (h : At T m c below) (hx : tb.exec = Jvm.exec) (hd : decode c.code pc = .ok (.istore_n k, 1)) (hl : storeLocals L k.val (.int v) = some L') (hp : pc + 1 = pc') (hr : Steps tb e below (T.setTop (mkF m pc' L' (S))) target) : Steps tb e below (T.setTop (mkF m pc L (.int v :: S))) target := by
  subst hp; exact XS.istoreN h hx rfl hd rfl hl hr
theorem t_istore {tb : Tables} [Ours tb] {e : Env} {below : List Frame} {T target : State} {m : MethodId} {c : Code} {pc : Nat} {L : Array Slot} {S : List Value} {v : Int32} {k : Nat} {L' : Array Slot} (pc' : Nat) (h : At T m c below) (hx : tb.exec = Jvm.exec) (hd : decode c.code pc = .ok (.istore k, 2)) (hl : storeLocals L k (.int v) = some L') (hp : pc + 2 = pc') (hr : Steps tb e below (T.setTop (mkF m pc' L' (S))) target) : Steps tb e below (T.setTop (mkF m pc L (.int v :: S))) target := by
  subst hp; exact XS.istore h hx rfl hd rfl hl hr
theorem t_dstoreN {tb : Tables} [Ours tb] {e : Env} {below : List Frame} {T target : State} {m : MethodId} {c : Code} {pc : Nat} {L : Array Slot} {S : List Value} {v : UInt64} {k : Fin 4} {L' : Array Slot} (pc' : Nat) (h : At T m c below) (hx : tb.exec = Jvm.exec) (hd : decode c.code pc = .ok (.dstore_n k, 1)) (hl : storeLocals L k.val (.double v) = some L') (hp : pc + 1 = pc') (hr : Steps tb e below (T.setTop (mkF m pc' L' (S))) target) : Steps tb e below (T.setTop (mkF m pc L (.double v :: S))) target := by
  subst hp; exact XS.dstoreN h hx rfl hd rfl hl hr
theorem t_dstore {tb : Tables} [Ours tb] {e : Env} {below : List Frame} {T target : State} {m : MethodId} {c : Code} {pc : Nat} {L : Array Slot} {S : List Value} {v : UInt64} {k : Nat} {L' : Array Slot} (pc' : Nat) (h : At T m c below) (hx : tb.exec = Jvm.exec) (hd : decode c.code pc = .ok (.dstore k, 2)) (hl : storeLocals L k (.double v) = some L') (hp : pc + 2 = pc') (hr : Steps tb e below (T.setTop (mkF m pc' L' (S))) target) : Steps tb e below (T.setTop (mkF m pc L (.double v :: S))) target := by
  subst hp; exact XS.dstore h hx rfl hd rfl hl hr
theorem t_iconst {tb : Tables} [Ours tb] {e : Env} {below : List Frame} {T target : State} {m : MethodId} {c : Code} {pc : Nat} {L : Array Slot} {S : List Value} {i : Int} {r : Int32} (pc' : Nat) (h : At T m c below) (hx : tb.exec = Jvm.exec) (hd : decode c.code pc = .ok (.iconst i, 1)) (he : Int32.ofInt i = r) (hp : pc + 1 = pc') (hr : Steps tb e below (T.setTop (mkF m pc' L (.int r :: S))) target) : Steps tb e below (T.setTop (mkF m pc L (S))) target := by
  subst hp he; exact XS.iconst h hx rfl hd hr
theorem t_bipush {tb : Tables} [Ours tb] {e : Env} {below : List Frame} {T target : State} {m : MethodId} {c : Code} {pc : Nat} {L : Array Slot} {S : List Value} {i : Int} {r : Int32} (pc' : Nat) (h : At T m c below) (hx : tb.exec = Jvm.exec) (hd : decode c.code pc = .ok (.bipush i, 2)) (he : (Int8.ofInt i).toInt32 = r) (hp : pc + 2 = pc') (hr : Steps tb e below (T.setTop (mkF m pc' L (.int r :: S))) target) : Steps tb e below (T.setTop (mkF m pc L (S))) target := by
  subst hp he; exact XS.bipush h hx rfl hd hr
theorem t_sipush {tb : Tables} [Ours tb] {e : Env} {below : List Frame} {T target : State} {m : MethodId} {c : Code} {pc : Nat} {L : Array Slot} {S : List Value} {i : Int} {r : Int32} (pc' : Nat) (h : At T m c below) (hx : tb.exec = Jvm.exec) (hd : decode c.code pc = .ok (.sipush i, 3)) (he : (Int16.ofInt i).toInt32 = r) (hp : pc + 3 = pc') (hr : Steps tb e below (T.setTop (mkF m pc' L (.int r :: S))) target) : Steps tb e below (T.setTop (mkF m pc L (S))) target := by
  subst hp he; exact XS.sipush h hx rfl hd hr
theorem t_dconst0 {tb : Tables} [Ours tb] {e : Env} {below : List Frame} {T target : State} {m : MethodId} {c : Code} {pc : Nat} {L : Array Slot} {S : List Value} {r : UInt64} (pc' : Nat) (h : At T m c below) (hx : tb.exec = Jvm.exec) (hd : decode c.code pc = .ok (.dconst 0, 1)) (he : FP.dconst0 = r) (hp : pc + 1 = pc') (hr : Steps tb e below (T.setTop (mkF m pc' L (.double r :: S))) target) : Steps tb e below (T.setTop (mkF m pc L (S))) target := by
  subst hp; exact XS.dconst0 h hx rfl hd he hr
theorem t_iadd {tb : Tables} [Ours tb] {e : Env} {below : List Frame} {T target : State} {m : MethodId} {c : Code} {pc : Nat} {L : Array Slot} {S : List Value} {x y r : Int32} (pc' : Nat) (h : At T m c below) (hx : tb.exec = Jvm.exec) (hd : decode c.code pc = .ok (.iadd, 1)) (he : x + y = r) (hp : pc + 1 = pc') (hr : Steps tb e below (T.setTop (mkF m pc' L (.int r :: S))) target) : Steps tb e below (T.setTop (mkF m pc L (.int y :: .int x :: S))) target := by
  subst hp he; exact XS.iadd h hx rfl hd rfl hr
theorem t_isub {tb : Tables} [Ours tb] {e : Env} {below : List Frame} {T target : State} {m : MethodId} {c : Code} {pc : Nat} {L : Array Slot} {S : List Value} {x y r : Int32} (pc' : Nat) (h : At T m c below) (hx : tb.exec = Jvm.exec) (hd : decode c.code pc = .ok (.isub, 1)) (he : x - y = r) (hp : pc + 1 = pc') (hr : Steps tb e below (T.setTop (mkF m pc' L (.int r :: S))) target) : Steps tb e below (T.setTop (mkF m pc L (.int y :: .int x :: S))) target := by
  subst hp he; exact XS.isub h hx rfl hd rfl hr
theorem t_imul {tb : Tables} [Ours tb] {e : Env} {below : List Frame} {T target : State} {m : MethodId} {c : Code} {pc : Nat} {L : Array Slot} {S : List Value} {x y r : Int32} (pc' : Nat) (h : At T m c below) (hx : tb.exec = Jvm.exec) (hd : decode c.code pc = .ok (.imul, 1)) (he : x * y = r) (hp : pc + 1 = pc') (hr : Steps tb e below (T.setTop (mkF m pc' L (.int r :: S))) target) : Steps tb e below (T.setTop (mkF m pc L (.int y :: .int x :: S))) target := by
  subst hp he; exact XS.imul h hx rfl hd rfl hr
theorem t_iand {tb : Tables} [Ours tb] {e : Env} {below : List Frame} {T target : State} {m : MethodId} {c : Code} {pc : Nat} {L : Array Slot} {S : List Value} {x y r : Int32} (pc' : Nat) (h : At T m c below) (hx : tb.exec = Jvm.exec) (hd : decode c.code pc = .ok (.iand, 1)) (he : x &&& y = r) (hp : pc + 1 = pc') (hr : Steps tb e below (T.setTop (mkF m pc' L (.int r :: S))) target) : Steps tb e below (T.setTop (mkF m pc L (.int y :: .int x :: S))) target := by
  subst hp he; exact XS.iand h hx rfl hd rfl hr
theorem t_irem {tb : Tables} [Ours tb] {e : Env} {below : List Frame} {T target : State} {m : MethodId} {c : Code} {pc : Nat} {L : Array Slot} {S : List Value} {x y r : Int32} (pc' : Nat) (h : At T m c below) (hx : tb.exec = Jvm.exec) (hd : decode c.code pc = .ok (.irem, 1)) (hy : y ≠ 0) (he : x - (x / y) * y = r) (hp : pc + 1 = pc') (hr : Steps tb e below (T.setTop (mkF m pc' L (.int r :: S))) target) : Steps tb e below (T.setTop (mkF m pc L (.int y :: .int x :: S))) target := by
  subst hp he; exact XS.irem h hx rfl hd rfl hy hr
theorem t_i2d {tb : Tables} [Ours tb] {e : Env} {below : List Frame} {T target : State} {m : MethodId} {c : Code} {pc : Nat} {L : Array Slot} {S : List Value} {x : Int32} {r : UInt64} (pc' : Nat) (h : At T m c below) (hx : tb.exec = Jvm.exec) (hd : decode c.code pc = .ok (.i2d, 1)) (he : FP.i2d x = r) (hp : pc + 1 = pc') (hr : Steps tb e below (T.setTop (mkF m pc' L (.double r :: S))) target) : Steps tb e below (T.setTop (mkF m pc L (.int x :: S))) target := by
  subst hp; exact XS.i2dS h hx rfl hd rfl he hr
theorem t_dadd {tb : Tables} [Ours tb] {e : Env} {below : List Frame} {T target : State} {m : MethodId} {c : Code} {pc : Nat} {L : Array Slot} {S : List Value} {x y r : UInt64} (pc' : Nat) (h : At T m c below) (hx : tb.exec = Jvm.exec) (hd : decode c.code pc = .ok (.dadd, 1)) (hn : Jvm.Free.Fl.NoNaN64 (FP.dadd x y)) (he : FP.dadd x y = r) (hp : pc + 1 = pc') (hr : Steps tb e below (T.setTop (mkF m pc' L (.double r :: S))) target) : Steps tb e below (T.setTop (mkF m pc L (.double y :: .double x :: S))) target := by
  subst hp; exact XS.daddS h hx rfl hd rfl hn he hr
theorem t_ddiv {tb : Tables} [Ours tb] {e : Env} {below : List Frame} {T target : State} {m : MethodId} {c : Code} {pc : Nat} {L : Array Slot} {S : List Value} {x y r : UInt64} (pc' : Nat) (h : At T m c below) (hx : tb.exec = Jvm.exec) (hd : decode c.code pc = .ok (.ddiv, 1)) (hn : Jvm.Free.Fl.NoNaN64 (FP.ddiv x y)) (he : FP.ddiv x y = r) (hp : pc + 1 = pc') (hr : Steps tb e below (T.setTop (mkF m pc' L (.double r :: S))) target) : Steps tb e below (T.setTop (mkF m pc L (.double y :: .double x :: S))) target := by
  subst hp; exact XS.ddivS h hx rfl hd rfl hn he hr
theorem t_dcmp {tb : Tables} [Ours tb] {e : Env} {below : List Frame} {T target : State} {m : MethodId} {c : Code} {pc : Nat} {L : Array Slot} {S : List Value} {o : CmpOp} {x y : UInt64} {r : Int32} (pc' : Nat) (h : At T m c below) (hx : tb.exec = Jvm.exec) (hd : decode c.code pc = .ok (.dcmp o, 1)) (he : cmpValue (FP.dcmp x y) o = r) (hp : pc + 1 = pc') (hr : Steps tb e below (T.setTop (mkF m pc' L (.int r :: S))) target) : Steps tb e below (T.setTop (mkF m pc L (.double y :: .double x :: S))) target := by
  subst hp; exact XS.dcmpS h hx rfl hd rfl he hr
theorem t_iinc {tb : Tables} [Ours tb] {e : Env} {below : List Frame} {T target : State} {m : MethodId} {c : Code} {pc : Nat} {L : Array Slot} {S : List Value} {k : Nat} {cst : Int} {x : Int32} {L' : Array Slot} (pc' : Nat) (h : At T m c below) (hx : tb.exec = Jvm.exec) (hd : decode c.code pc = .ok (.iinc k cst, 3)) (hl : L[k]? = some (.val (.int x))) (hl' : storeLocals L k (.int (x + Int32.ofInt cst)) = some L') (hp : pc + 3 = pc') (hr : Steps tb e below (T.setTop (mkF m pc' L' (S))) target) : Steps tb e below (T.setTop (mkF m pc L (S))) target := by
  subst hp; exact XS.iinc h hx rfl hd hl hl' hr
theorem t_goto {tb : Tables} [Ours tb] {e : Env} {below : List Frame} {T target : State} {m : MethodId} {c : Code} {pc : Nat} {L : Array Slot} {S : List Value} {o : Int} (pc' : Nat) (h : At T m c below) (hx : tb.exec = Jvm.exec) (hd : decode c.code pc = .ok (.goto o, 3)) (ho : 0 ≤ (pc : Int) + o) (hp : ((pc : Int) + o).toNat = pc') (hr : Steps tb e below (T.setTop (mkF m pc' L (S))) target) : Steps tb e below (T.setTop (mkF m pc L (S))) target := by
  exact XS.goto h hx rfl rfl hd ho hp hr
theorem t_ifYes {tb : Tables} [Ours tb] {e : Env} {below : List Frame} {T target : State} {m : MethodId} {c : Code} {pc : Nat} {L : Array Slot} {S : List Value} {cd : ClassFile.Cond} {x : Int32} {o : Int} (pc' : Nat) (h : At T m c below) (hx : tb.exec = Jvm.exec) (hd : decode c.code pc = .ok (.ifCond cd o, 3)) (hc : ifCond.holds cd x = true) (ho : 0 ≤ (pc : Int) + o) (hp : ((pc : Int) + o).toNat = pc') (hr : Steps tb e below (T.setTop (mkF m pc' L (S))) target) : Steps tb e below (T.setTop (mkF m pc L (.int x :: S))) target := by
  exact XS.ifYes h hx rfl rfl hd rfl hc ho hp hr
theorem t_ifNo {tb : Tables} [Ours tb] {e : Env} {below : List Frame} {T target : State} {m : MethodId} {c : Code} {pc : Nat} {L : Array Slot} {S : List Value} {cd : ClassFile.Cond} {x : Int32} {o : Int} (pc' : Nat) (h : At T m c below) (hx : tb.exec = Jvm.exec) (hd : decode c.code pc = .ok (.ifCond cd o, 3)) (hc : ifCond.holds cd x = false) (hp : pc + 3 = pc') (hr : Steps tb e below (T.setTop (mkF m pc' L (S))) target) : Steps tb e below (T.setTop (mkF m pc L (.int x :: S))) target := by
  subst hp; exact XS.ifNo h hx rfl hd rfl hc hr
theorem t_icmpYes {tb : Tables} [Ours tb] {e : Env} {below : List Frame} {T target : State} {m : MethodId} {c : Code} {pc : Nat} {L : Array Slot} {S : List Value} {cd : ClassFile.Cond} {x y : Int32} {o : Int} (pc' : Nat) (h : At T m c below) (hx : tb.exec = Jvm.exec) (hd : decode c.code pc = .ok (.if_icmp cd o, 3)) (hc : if_icmp.holds cd x y = true) (ho : 0 ≤ (pc : Int) + o) (hp : ((pc : Int) + o).toNat = pc') (hr : Steps tb e below (T.setTop (mkF m pc' L (S))) target) : Steps tb e below (T.setTop (mkF m pc L (.int y :: .int x :: S))) target := by
  exact XS.icmpYes h hx rfl rfl hd rfl hc ho hp hr
theorem t_icmpNo {tb : Tables} [Ours tb] {e : Env} {below : List Frame} {T target : State} {m : MethodId} {c : Code} {pc : Nat} {L : Array Slot} {S : List Value} {cd : ClassFile.Cond} {x y : Int32} {o : Int} (pc' : Nat) (h : At T m c below) (hx : tb.exec = Jvm.exec) (hd : decode c.code pc = .ok (.if_icmp cd o, 3)) (hc : if_icmp.holds cd x y = false) (hp : pc + 3 = pc') (hr : Steps tb e below (T.setTop (mkF m pc' L (S))) target) : Steps tb e below (T.setTop (mkF m pc L (.int y :: .int x :: S))) target := by
  subst hp; exact XS.icmpNo h hx rfl hd rfl hc hr
theorem own_arlen {p : Program} {l : Launch} {e : Env} {R : Room} {s : State} {m : MethodId} {args : Array Value} {below : List Frame} {meth : Method} {c : Code} {T : State} {locs : List Loc} {cells slots : Nat} {Z : State} {h : Heap} {a : Addr} {k : ClassId} {z : Int32} {vs : List Value} {dv : Value} {pc pc' : Nat} {Ls : Array Slot} {S : List Value} {ty : FieldType} {target : State} (X : Stand p l e R s m args below meth c T locs cells slots) (hx : p.tables.exec = Jvm.exec) (hZ : Z.Warmed39 s.vm) (eT : T.heap = h) (F : Arv Z h a k ty z vs dv) (hd : decode c.code pc = .ok (.arraylength, 1)) (hp : pc + 1 = pc') (hr : Steps p.tables e below (T.setTop (mkF m pc' Ls (.int z :: S))) target) : Steps p.tables e below (T.setTop (mkF m pc Ls (.ref a :: S))) target := by
  obtain ⟨cl, A, -, q, n, -, -⟩ := F
  subst hp
  refine X.arraylength hx (by rw [eT]; exact A.1) (State.isArrayOf_alike hZ.alike A.2.1) (g := mkF m pc Ls (.ref a :: S)) rfl rfl hd _ ?_
  rw [len_of q n]; exact hr
theorem own_aldI {p : Program} {l : Launch} {e : Env} {R : Room} {s : State} {m : MethodId} {args : Array Value} {below : List Frame} {meth : Method} {c : Code} {T : State} {locs : List Loc} {cells slots : Nat} {Z : State} {h : Heap} {a : Addr} {k : ClassId} {z j : Int32} {vs : List Value} {v dv : Value} {pc pc' : Nat} {Ls : Array Slot} {S : List Value} {target : State} (X : Stand p l e R s m args below meth c T locs cells slots) (hx : p.tables.exec = Jvm.exec) (hZ : Z.Warmed39 s.vm) (eT : T.heap = h) (F : Arv Z h a k .int z vs dv) (hj : ¬ j < 0 ∧ j < z) (hv : vs.getD j.toNatClampNeg dv = v) (hd : decode c.code pc = .ok (.iaload, 1)) (hp : pc + 1 = pc') (hr : Steps p.tables e below (T.setTop (mkF m pc' Ls (v :: S))) target) : Steps p.tables e below (T.setTop (mkF m pc Ls (.int j :: .ref a :: S))) target := by
  obtain ⟨cl, A, -, q, n, H, -⟩ := F
  subst hp
  have hin := inb_of q hj
  exact X.iaload hx (by rw [eT]; exact A.1) (State.isArrayOf_alike hZ.alike A.2.1) A.2.2 hin (H.at hin hv) (g := mkF m pc Ls (.int j :: .ref a :: S)) rfl rfl hd _ hr
theorem own_aldD {p : Program} {l : Launch} {e : Env} {R : Room} {s : State} {m : MethodId} {args : Array Value} {below : List Frame} {meth : Method} {c : Code} {T : State} {locs : List Loc} {cells slots : Nat} {Z : State} {h : Heap} {a : Addr} {k : ClassId} {z j : Int32} {vs : List Value} {v dv : Value} {pc pc' : Nat} {Ls : Array Slot} {S : List Value} {target : State} (X : Stand p l e R s m args below meth c T locs cells slots) (hx : p.tables.exec = Jvm.exec) (hZ : Z.Warmed39 s.vm) (eT : T.heap = h) (F : Arv Z h a k .double z vs dv) (hj : ¬ j < 0 ∧ j < z) (hv : vs.getD j.toNatClampNeg dv = v) (hd : decode c.code pc = .ok (.daload, 1)) (hp : pc + 1 = pc') (hr : Steps p.tables e below (T.setTop (mkF m pc' Ls (v :: S))) target) : Steps p.tables e below (T.setTop (mkF m pc Ls (.int j :: .ref a :: S))) target := by
  obtain ⟨cl, A, -, q, n, H, -⟩ := F
  subst hp
  have hin := inb_of q hj
  exact X.daload hx (by rw [eT]; exact A.1) (State.isArrayOf_alike hZ.alike A.2.1) A.2.2 hin (H.at hin hv) (g := mkF m pc Ls (.int j :: .ref a :: S)) rfl rfl hd _ hr
abbrev HW (Z : State) (a0 : Array Value) : Prop := ∀ d ∈ tables_1, d.before a0 Z = true
theorem ow {Z : State} {a0 : Array Value} {d : Jvm.Cond} (i : Nat) (hw : HW Z a0) (q : tables_1[i]? = some d) : d.before a0 Z = true := hw d (List.mem_of_getElem? q)
abbrev z0 : Value := .int 0
abbrev SCS (Z : State) (z : Int32) : Prop := Sta Z Z.heap "java/lang/String" "COMPACT_STRINGS" "Z" (.int z)
variable {Z : State} {a0 : Array Value}
abbrev vr (a : Addr) : Slot := .val (.ref a)
abbrev vi (z : Int32) : Slot := .val (.int z)
theorem own_dconst0 : FP.dconst0 = FP.l2d 0 := l2d_zero.symm
theorem own_zl2d {n : Int64} (h0 : 0 < n.toInt) (h1 : n.toInt < 9007199254740992) : ∃ c q, FP.Core.val64 (FP.Core.l2d n) = .fin false c q ∧ FP.Core.b64.qmin ≤ q ∧ c * 2 ^ (q + 1074).toNat = n.toInt.toNat * 2 ^ 1074 := by
  have hw := FP.Core.l2d_whole (a := n) ⟨by omega, h1⟩
  obtain ⟨c, q, e⟩ := FP.Core.l2d_shape n
  have hd : decide (n.toInt < 0) = false := decide_eq_false (by omega)
  rw [hd] at e
  have hf := FP.Core.val64_fits (FP.Core.l2d n)
  rw [e] at hf hw
  have hq := hf.2.1
  refine ⟨c, q, e, hq, ?_⟩
  have hu := FP.Core.whole_units hw hq
  have e1 : FP.Core.b64.qmin = -1074 := FP.Core.qmin_b64
  rw [e1] at hu hq
  have e2 : (-1074 : Int).toNat = 0 := rfl
  have e3 : (-(-1074 : Int)).toNat = 1074 := rfl
  rw [e2, e3] at hu
  have e4 : FP.Core.inUnits c q (-1074) = c * 2 ^ (q + 1074).toNat := by
    show c * 2 ^ (q - (-1074)).toNat = _
    rw [show q - (-1074) = q + 1074 by omega]
  rw [e4] at hu
  have e5 : FP.Core.signed false (c * 2 ^ (q + 1074).toNat) = ((c * 2 ^ (q + 1074).toNat : Nat) : Int) := rfl
  rw [e5] at hu
  generalize 2 ^ 1074 = P at *
  have hn : n.toInt = (n.toInt.toNat : Int) := (Int.toNat_of_nonneg (by omega)).symm
  rw [hn] at hu
  have e6 : (2 ^ 0 : Nat) = 1 := rfl
  rw [e6] at hu
  have : ((c * 2 ^ (q + 1074).toNat : Nat) : Int) = ((n.toInt.toNat * P : Nat) : Int) := by rw [Int.natCast_mul n.toInt.toNat P]; omega
  exact Int.ofNat.inj this
theorem own_dv {n : Int64} (h0 : 0 < n.toInt) (h1 : n.toInt < 9007199254740992) : FP.Core.val64 (FP.Core.ddiv (FP.Core.l2d n) 4730986895511650304) ≠ .nan ∧ (FP.Core.ddiv (FP.Core.l2d n) 4730986895511650304).toNat < 2 ^ 63 ∧
    (∀ m, n.toInt.toNat * 2 ^ 1074 ≤ FP.Core.unitsOf FP.Core.b64 m * 200000000 → (FP.Core.ddiv (FP.Core.l2d n) 4730986895511650304).toNat ≤ m) ∧
    (∀ m, m ≤ FP.Core.infBits FP.Core.b64 → FP.Core.unitsOf FP.Core.b64 m * 200000000 ≤ n.toInt.toNat * 2 ^ 1074 → m ≤ (FP.Core.ddiv (FP.Core.l2d n) 4730986895511650304).toNat) := by
  obtain ⟨c, q, e, hq, hz⟩ := own_zl2d h0 h1
  have eD : FP.Core.val64 4730986895511650304 = .fin false (200000000 * 2 ^ 25) (-25) := by decide +kernel
  have hv : FP.Core.val64 (FP.Core.ddiv (FP.Core.l2d n) 4730986895511650304) = FP.Core.roundRatio FP.Core.b64 false c (200000000 * 2 ^ 25) (q - -25) := by
    rw [FP.Core.val64_ddiv, e, eD]; rfl
  generalize FP.Core.ddiv (FP.Core.l2d n) 4730986895511650304 = u at *
  have e1 : FP.Core.b64.qmin = -1074 := FP.Core.qmin_b64
  rw [e1] at hq
  have hnn : FP.Core.val64 u ≠ .nan := by rw [hv]; exact FP.Core.roundRatio_ne_nan _ _ _ _ _
  have hs := FP.Core.sgn_bits hnn
  rw [hv, FP.Core.sgn_roundRatio] at hs
  have hlt : u.toNat < 2 ^ 63 := by
    have := of_decide_eq_false hs.symm; omega
  have hmag : FP.Core.mag FP.Core.b64 u.toNat = u.toNat := by rw [FP.Core.mag_toNat64]; exact Nat.mod_eq_of_lt hlt
  have k1 : FP.Core.inUnits c (q - -25) (-2123) = n.toInt.toNat * 2 ^ 1074 * 2 ^ 1074 := by
    show c * 2 ^ (q - -25 - -2123).toNat = _
    rw [show (q - -25 - -2123).toNat = (q + 1074).toNat + 1074 by omega, Nat.pow_add, ← Nat.mul_assoc, hz]
  have k2 : ∀ m, FP.Core.unitsOf FP.Core.b64 m * 2 ^ (FP.Core.b64.qmin - -2123).toNat * (200000000 * 2 ^ 25) = FP.Core.unitsOf FP.Core.b64 m * 200000000 * 2 ^ 1074 := fun m => by
    rw [e1, show ((-1074 : Int) - -2123).toNat = 1049 from rfl, show (1074 : Nat) = 1049 + 25 from rfl, Nat.pow_add]
    exact Nat.mul_mul_mul_comm _ _ _ _
  refine ⟨hnn, hlt, fun m h => ?_, fun m hm h => ?_⟩
  · have := FP.Core.mag_le FP.Core.good_b64 (n := u.toNat) (m := m) hv (by decide) (e0 := -2123) (by rw [e1]; decide) (by omega) (by rw [k1, k2]; exact Nat.mul_le_mul_right _ h)
    rwa [hmag] at this
  · have := FP.Core.mag_ge FP.Core.good_b64 (n := u.toNat) (m := m) hv (by decide) (e0 := -2123) (by rw [e1]; decide) (by omega) hm (by rw [k1, k2]; exact Nat.mul_le_mul_right _ h)
    rwa [hmag] at this
theorem own_two {k : Int32} (h0 : 0 ≤ k.toInt) (h1 : k.toInt < 100000000) : ((((2 : Int32) * k) + (1 : Int32)).toInt64).toInt = 2 * k.toInt + 1 := by
  have a1 := c_imul 2 k
  have a2 := c_iadd (2 * k) 1
  have r1 := rng32 (2 * k)
  have r2 := rng32 (2 * k + 1)
  have e1 : (2 : Int32).toInt = 2 := rfl
  have e2 : (1 : Int32).toInt = 1 := rfl
  rw [c_i2l]; rw [e1] at a1; rw [e2] at a2; omega
theorem own_ltG {k : Int32} (h0 : 0 ≤ k.toInt) (h1 : k.toInt < 100000000) {T : Nat} {A : UInt64} (hk : k.toInt < T) (hA : A.toNat < 2 ^ 63) (hA0 : 0 < A.toNat) (hAn : FP.Core.val64 A ≠ .nan) (hT : (2 * T - 1) * 2 ^ 1074 ≤ FP.Core.unitsOf FP.Core.b64 (A.toNat - 1) * 200000000) :
    (cmpValue (FP.dcmp (FP.ddiv (FP.l2d ((((2 : Int32) * k) + (1 : Int32)).toInt64)) (4730986895511650304 : UInt64)) A) .g) < (0 : Int32) := by
  have e := own_two h0 h1
  obtain ⟨a, b, c, -⟩ := own_dv (n := (((2 : Int32) * k) + (1 : Int32)).toInt64) (by omega) (by omega)
  have := c _ (Nat.le_trans (Nat.mul_le_mul_right _ (show _ ≤ 2 * T - 1 by omega)) hT)
  have hc := (FP.Core.mono_bits a hAn b hA).1.mpr (by omega)
  have hc' : FP.dcmp (FP.ddiv (FP.l2d ((((2 : Int32) * k) + (1 : Int32)).toInt64)) (4730986895511650304 : UInt64)) A = some .lt := hc
  rw [hc']; decide
theorem own_geG {k : Int32} (h0 : 0 ≤ k.toInt) (h1 : k.toInt < 100000000) {T : Nat} {A : UInt64} (hk : T ≤ k.toInt) (hA : A.toNat < 2 ^ 63) (hA1 : A.toNat ≤ FP.Core.infBits FP.Core.b64) (hAn : FP.Core.val64 A ≠ .nan) (hT : FP.Core.unitsOf FP.Core.b64 A.toNat * 200000000 ≤ (2 * T + 1) * 2 ^ 1074) :
    ¬ ((cmpValue (FP.dcmp (FP.ddiv (FP.l2d ((((2 : Int32) * k) + (1 : Int32)).toInt64)) (4730986895511650304 : UInt64)) A) .g) < (0 : Int32)) := by
  have e := own_two h0 h1
  obtain ⟨a, b, -, c⟩ := own_dv (n := (((2 : Int32) * k) + (1 : Int32)).toInt64) (by omega) (by omega)
  have := c _ hA1 (Nat.le_trans hT (Nat.mul_le_mul_right _ (show 2 * T + 1 ≤ _ by omega)))
  have hm := FP.Core.mono_bits a hAn b hA
  have hne : FP.Core.dcmp (FP.Core.ddiv (FP.Core.l2d ((((2 : Int32) * k) + (1 : Int32)).toInt64)) 4730986895511650304) A ≠ some .lt := fun q => by have := hm.1.mp q; omega
  have hne' : FP.dcmp (FP.ddiv (FP.l2d ((((2 : Int32) * k) + (1 : Int32)).toInt64)) (4730986895511650304 : UInt64)) A ≠ some .lt := hne
  cases hd : FP.dcmp (FP.ddiv (FP.l2d ((((2 : Int32) * k) + (1 : Int32)).toInt64)) (4730986895511650304 : UInt64)) A with
  | none => decide
  | some o => cases o with
    | lt => exact absurd hd hne'
    | eq => decide
    | gt => decide
theorem own_nlt {k a b : Int32} (h : ¬ k < b) (q : ¬ b < a) : ¬ k < a := by
  rw [Int32.lt_iff_toInt_lt] at *; omega
theorem own_lt {k a b : Int32} (h : k < a) (q : ¬ b < a) : k < b := by
  rw [Int32.lt_iff_toInt_lt] at *; omega
theorem own_rem8 (x : Int32) : 0 ≤ ((x &&& 2147483647) - ((x &&& 2147483647) / 100000000) * 100000000).toInt ∧ ((x &&& 2147483647) - ((x &&& 2147483647) / 100000000) * 100000000).toInt < 100000000 := by
  generalize hy : x &&& 2147483647 = y
  have h0 : 0 ≤ y.toInt := by rw [← hy]; exact (c_and x 2147483647 (by decide)).1
  have hd := (c_idiv y 100000000 100000000 (by decide) (by decide)).1 h0
  have h1 := c_isub y (y / 100000000 * 100000000)
  have h2 := c_imul (y / 100000000) 100000000
  have r := rng32 y
  have r2 := rng32 (y / 100000000 * 100000000)
  have r3 := rng32 (y - y / 100000000 * 100000000)
  have e4 : (100000000 : Int32).toInt = 100000000 := rfl
  rw [e4] at h2
  omega
theorem own_and3 (x : Int32) : x &&& 3 = 0 ∨ x &&& 3 = 1 ∨ x &&& 3 = 2 ∨ x &&& 3 = 3 := by
  have h := c_mask x 3 2 (by decide) (by decide)
  have h2 : (x &&& 3).toInt = (0 : Int32).toInt ∨ (x &&& 3).toInt = (1 : Int32).toInt ∨ (x &&& 3).toInt = (2 : Int32).toInt ∨ (x &&& 3).toInt = (3 : Int32).toInt := by
    show (x &&& 3).toInt = 0 ∨ (x &&& 3).toInt = 1 ∨ (x &&& 3).toInt = 2 ∨ (x &&& 3).toInt = 3
    omega
  rcases h2 with q | q | q | q
  · exact Or.inl (Int32.toInt_inj.mp q)
  · exact Or.inr (Or.inl (Int32.toInt_inj.mp q))
  · exact Or.inr (Or.inr (Or.inl (Int32.toInt_inj.mp q)))
  · exact Or.inr (Or.inr (Or.inr (Int32.toInt_inj.mp q)))
theorem own_alen {Z : State} {args : Array Value} {t : Term} {a : Addr} {cl : Cell} {ty : FieldType} {z : Int32} (ev : t.eval args Z none [] Z = some (.ref a)) (A : Arr Z Z.heap a cl ty) (h : (Term.length t).eval args Z none [] Z = some (.int z)) : cl.slots.size < 2 ^ 31 ∧ cl.slots.size.toInt32 = z := by
  have f := A.fin (Vm.Alike.refl _)
  simp only [Term.eval, ev, Option.bind_eq_bind, Option.bind_some, f] at h
  split at h
  · rename_i hq; exact ⟨hq, by cases h; rfl⟩
  · cases h
theorem own_eqd {Z : State} {args : Array Value} {X F : Term} {y : UInt64} (hF : F.eval args Z none [] Z = some (.double y)) (h : (Cond.eq X F).value args Z none Z [] = some true) : X.eval args Z none [] Z = some (.double y) := by
  simp only [Cond.value, hF] at h
  cases hx : X.eval args Z none [] Z with
  | none => simp [hx] at h
  | some v => cases v <;> simp [hx] at h ⊢; exact h
theorem own_lt0 {k : Int32} (h0 : 0 ≤ k.toInt) (h1 : k.toInt < 100000000) (h : k < (27120000 : Int32)) : (cmpValue (FP.dcmp (FP.ddiv (FP.l2d ((((2 : Int32) * k) + (1 : Int32)).toInt64)) (4730986895511650304 : UInt64)) (4598557124793677434 : UInt64)) .g) < (0 : Int32) := own_ltG h0 h1 (T := 27120000) (by rw [Int32.lt_iff_toInt_lt] at h; exact h) (by decide) (by decide) (by decide +kernel) (by decide +kernel)
theorem own_ge0 {k : Int32} (h0 : 0 ≤ k.toInt) (h1 : k.toInt < 100000000) (h : ¬ k < (27120000 : Int32)) : ¬ ((cmpValue (FP.dcmp (FP.ddiv (FP.l2d ((((2 : Int32) * k) + (1 : Int32)).toInt64)) (4730986895511650304 : UInt64)) (4598557124793677434 : UInt64)) .g) < (0 : Int32)) := own_geG h0 h1 (T := 27120000) (by rw [Int32.lt_iff_toInt_lt] at h; exact Int.not_lt.mp h) (by decide) (by decide +kernel) (by decide +kernel) (by decide +kernel)
theorem own_lt1 {k : Int32} (h0 : 0 ≤ k.toInt) (h1 : k.toInt < 100000000) (h : k < (37220000 : Int32)) : (cmpValue (FP.dcmp (FP.ddiv (FP.l2d ((((2 : Int32) * k) + (1 : Int32)).toInt64)) (4730986895511650304 : UInt64)) (4600376579043135114 : UInt64)) .g) < (0 : Int32) := own_ltG h0 h1 (T := 37220000) (by rw [Int32.lt_iff_toInt_lt] at h; exact h) (by decide) (by decide) (by decide +kernel) (by decide +kernel)
theorem own_ge1 {k : Int32} (h0 : 0 ≤ k.toInt) (h1 : k.toInt < 100000000) (h : ¬ k < (37220000 : Int32)) : ¬ ((cmpValue (FP.dcmp (FP.ddiv (FP.l2d ((((2 : Int32) * k) + (1 : Int32)).toInt64)) (4730986895511650304 : UInt64)) (4600376579043135114 : UInt64)) .g) < (0 : Int32)) := own_geG h0 h1 (T := 37220000) (by rw [Int32.lt_iff_toInt_lt] at h; exact Int.not_lt.mp h) (by decide) (by decide +kernel) (by decide +kernel) (by decide +kernel)
theorem own_lt2 {k : Int32} (h0 : 0 ≤ k.toInt) (h1 : k.toInt < 100000000) (h : k < (51760000 : Int32)) : (cmpValue (FP.dcmp (FP.ddiv (FP.l2d ((((2 : Int32) * k) + (1 : Int32)).toInt64)) (4730986895511650304 : UInt64)) (4602837345879530353 : UInt64)) .g) < (0 : Int32) := own_ltG h0 h1 (T := 51760000) (by rw [Int32.lt_iff_toInt_lt] at h; exact h) (by decide) (by decide) (by decide +kernel) (by decide +kernel)
theorem own_ge2 {k : Int32} (h0 : 0 ≤ k.toInt) (h1 : k.toInt < 100000000) (h : ¬ k < (51760000 : Int32)) : ¬ ((cmpValue (FP.dcmp (FP.ddiv (FP.l2d ((((2 : Int32) * k) + (1 : Int32)).toInt64)) (4730986895511650304 : UInt64)) (4602837345879530353 : UInt64)) .g) < (0 : Int32)) := own_geG h0 h1 (T := 51760000) (by rw [Int32.lt_iff_toInt_lt] at h; exact Int.not_lt.mp h) (by decide) (by decide +kernel) (by decide +kernel) (by decide +kernel)
theorem own_lt3 {k : Int32} (h0 : 0 ≤ k.toInt) (h1 : k.toInt < 100000000) (h : k < (63440000 : Int32)) : (cmpValue (FP.dcmp (FP.ddiv (FP.l2d ((((2 : Int32) * k) + (1 : Int32)).toInt64)) (4730986895511650304 : UInt64)) (4603889386752484101 : UInt64)) .g) < (0 : Int32) := own_ltG h0 h1 (T := 63440000) (by rw [Int32.lt_iff_toInt_lt] at h; exact h) (by decide) (by decide) (by decide +kernel) (by decide +kernel)
theorem own_ge3 {k : Int32} (h0 : 0 ≤ k.toInt) (h1 : k.toInt < 100000000) (h : ¬ k < (63440000 : Int32)) : ¬ ((cmpValue (FP.dcmp (FP.ddiv (FP.l2d ((((2 : Int32) * k) + (1 : Int32)).toInt64)) (4730986895511650304 : UInt64)) (4603889386752484101 : UInt64)) .g) < (0 : Int32)) := own_geG h0 h1 (T := 63440000) (by rw [Int32.lt_iff_toInt_lt] at h; exact Int.not_lt.mp h) (by decide) (by decide +kernel) (by decide +kernel) (by decide +kernel)
theorem own_lt4 {k : Int32} (h0 : 0 ≤ k.toInt) (h1 : k.toInt < 100000000) (h : k < (73860000 : Int32)) : (cmpValue (FP.dcmp (FP.ddiv (FP.l2d ((((2 : Int32) * k) + (1 : Int32)).toInt64)) (4730986895511650304 : UInt64)) (4604827936914828112 : UInt64)) .g) < (0 : Int32) := own_ltG h0 h1 (T := 73860000) (by rw [Int32.lt_iff_toInt_lt] at h; exact h) (by decide) (by decide) (by decide +kernel) (by decide +kernel)
theorem own_ge4 {k : Int32} (h0 : 0 ≤ k.toInt) (h1 : k.toInt < 100000000) (h : ¬ k < (73860000 : Int32)) : ¬ ((cmpValue (FP.dcmp (FP.ddiv (FP.l2d ((((2 : Int32) * k) + (1 : Int32)).toInt64)) (4730986895511650304 : UInt64)) (4604827936914828112 : UInt64)) .g) < (0 : Int32)) := own_geG h0 h1 (T := 73860000) (by rw [Int32.lt_iff_toInt_lt] at h; exact Int.not_lt.mp h) (by decide) (by decide +kernel) (by decide +kernel) (by decide +kernel)
theorem own_lt5 {k : Int32} (h0 : 0 ≤ k.toInt) (h1 : k.toInt < 100000000) (h : k < (91580000 : Int32)) : (cmpValue (FP.dcmp (FP.ddiv (FP.l2d ((((2 : Int32) * k) + (1 : Int32)).toInt64)) (4730986895511650304 : UInt64)) (4606424012622768216 : UInt64)) .g) < (0 : Int32) := own_ltG h0 h1 (T := 91580000) (by rw [Int32.lt_iff_toInt_lt] at h; exact h) (by decide) (by decide) (by decide +kernel) (by decide +kernel)
theorem own_ge5 {k : Int32} (h0 : 0 ≤ k.toInt) (h1 : k.toInt < 100000000) (h : ¬ k < (91580000 : Int32)) : ¬ ((cmpValue (FP.dcmp (FP.ddiv (FP.l2d ((((2 : Int32) * k) + (1 : Int32)).toInt64)) (4730986895511650304 : UInt64)) (4606424012622768216 : UInt64)) .g) < (0 : Int32)) := own_geG h0 h1 (T := 91580000) (by rw [Int32.lt_iff_toInt_lt] at h; exact Int.not_lt.mp h) (by decide) (by decide +kernel) (by decide +kernel) (by decide +kernel)
theorem own_lt6 {k : Int32} (h0 : 0 ≤ k.toInt) (h1 : k.toInt < 100000000) (h : k < (98400000 : Int32)) : (cmpValue (FP.dcmp (FP.ddiv (FP.l2d ((((2 : Int32) * k) + (1 : Int32)).toInt64)) (4730986895511650304 : UInt64)) (4607038303611941552 : UInt64)) .g) < (0 : Int32) := own_ltG h0 h1 (T := 98400000) (by rw [Int32.lt_iff_toInt_lt] at h; exact h) (by decide) (by decide) (by decide +kernel) (by decide +kernel)
theorem own_ge6 {k : Int32} (h0 : 0 ≤ k.toInt) (h1 : k.toInt < 100000000) (h : ¬ k < (98400000 : Int32)) : ¬ ((cmpValue (FP.dcmp (FP.ddiv (FP.l2d ((((2 : Int32) * k) + (1 : Int32)).toInt64)) (4730986895511650304 : UInt64)) (4607038303611941552 : UInt64)) .g) < (0 : Int32)) := own_geG h0 h1 (T := 98400000) (by rw [Int32.lt_iff_toInt_lt] at h; exact Int.not_lt.mp h) (by decide) (by decide +kernel) (by decide +kernel) (by decide +kernel)
abbrev b0_ := prog_211_method_5_code
theorem d0 : decode b0_ 0 = .ok (.dconst 0, 1) := by decide +kernel
theorem d1 : decode b0_ 1 = .ok (.dstore_n 2, 1) := by decide +kernel
theorem d2 : decode b0_ 2 = .ok (.iconst 0, 1) := by decide +kernel
theorem d3 : decode b0_ 3 = .ok (.istore 4, 2) := by decide +kernel
theorem d4 : decode b0_ 5 = .ok (.iload 4, 2) := by decide +kernel
theorem d5 : decode b0_ 7 = .ok (.getstatic 39, 3) := by decide +kernel
def w7 (hw : HW Z a0) := ow 7 hw rfl
theorem d6 : decode b0_ 10 = .ok (.arraylength, 1) := by decide +kernel
theorem d7 : decode b0_ 11 = .ok (.iconst 1, 1) := by decide +kernel
theorem d8 : decode b0_ 12 = .ok (.isub, 1) := by decide +kernel
theorem d9 : decode b0_ 13 = .ok (.if_icmp .ge 31, 3) := by decide +kernel
theorem d10 : decode b0_ 16 = .ok (.dload_n 2, 1) := by decide +kernel
theorem d11 : decode b0_ 17 = .ok (.getstatic 43, 3) := by decide +kernel
def w9 (hw : HW Z a0) := ow 9 hw rfl
theorem d12 : decode b0_ 20 = .ok (.iload 4, 2) := by decide +kernel
theorem d13 : decode b0_ 22 = .ok (.daload, 1) := by decide +kernel
theorem d14 : decode b0_ 23 = .ok (.dadd, 1) := by decide +kernel
theorem d15 : decode b0_ 24 = .ok (.dstore_n 2, 1) := by decide +kernel
theorem d16 : decode b0_ 25 = .ok (.dload_n 0, 1) := by decide +kernel
theorem d17 : decode b0_ 26 = .ok (.dload_n 2, 1) := by decide +kernel
theorem d18 : decode b0_ 27 = .ok (.dcmp .g, 1) := by decide +kernel
theorem d19 : decode b0_ 28 = .ok (.ifCond .ge 10, 3) := by decide +kernel
theorem d20 : decode b0_ 31 = .ok (.getstatic 39, 3) := by decide +kernel
theorem d21 : decode b0_ 34 = .ok (.iload 4, 2) := by decide +kernel
theorem d22 : decode b0_ 36 = .ok (.iaload, 1) := by decide +kernel
theorem d23 : decode b0_ 37 = .ok (.ireturn, 1) := by decide +kernel
theorem pn_Model987 : plainName "com/example/bourse/bourse/workload/Model" = true := by first | (simp [plainName, overriddenIn]; done) | decide +kernel
abbrev y0_procs : MethodName := ⟨"com/example/bourse/bourse/workload/Model", "procs", "(D)I"⟩
def Q_r_procs0 (Z : State) (st_SIZES st_SHARES : Addr) (x0 : UInt64) (k_st_SIZES k_st_SHARES : ClassId) (h0 : Heap) (n0 : Nat) (v : Option Value) (h : Heap) (L : List Loc) : Prop := v = some (.int 1) ∧ Fr n0 L ∧ h = h0
theorem ef_r_procs0 (x0 : UInt64) (m : MethodId) : entryFrame m #[(.double x0)] 5 = mkF m 0 #[.val (.double x0), .second, .unset, .unset, .unset] [] := by first | (simp [entryFrame, mkF, argsToLocals, Value.category]; done) | rfl
set_option maxRecDepth 65536 in
set_option maxHeartbeats 40000000 in
theorem r_procs0 (l : Launch) (Z : State) (a0 : Array Value) (hw : HW Z a0) (ws : List Jvm.Cond) (st_SIZES st_SHARES : Addr) (x0 : UInt64) (k_st_SIZES k_st_SHARES : ClassId) (h0 : Heap) (n0 : Nat) (Z0 : n0 ≤ h0.size) (S_SIZES : Sta Z Z.heap "com/example/bourse/bourse/workload/Model" "SIZES" "[I" (.ref st_SIZES)) (O0 : Old Z n0 h0) (V_st_SIZES : Arv Z h0 st_SIZES k_st_SIZES .int 8 [(.int 1), (.int 2), (.int 4), (.int 8), (.int 16), (.int 32), (.int 64), (.int 128)] z0) (S_SHARES : Sta Z Z.heap "com/example/bourse/bourse/workload/Model" "SHARES" "[D" (.ref st_SHARES)) (V_st_SHARES : Arv Z h0 st_SHARES k_st_SHARES .double 8 [(.double (4598557124793677434 : UInt64)), (.double (4591942237660995650 : UInt64)), (.double (4594406607377092785 : UInt64)), (.double (4593080747646794911 : UInt64)), (.double (4592172821961917019 : UInt64)), (.double (4595552323122295839 : UInt64)), (.double (4589578748576551613 : UInt64)), (.double (4580268907426851324 : UInt64))] (.double (FP.l2d (0 : Int64)))) (hp0 : (cmpValue (FP.dcmp x0 (4598557124793677434 : UInt64)) .g) < (0 : Int32)) :
    MF l Z y0_procs b0_ 5 (some .int) ws ⟨0, 0, 0, 0⟩ #[(.double x0)] h0 (Q_r_procs0 Z st_SIZES st_SHARES x0 k_st_SIZES k_st_SHARES h0 n0) := by
  refine own_body (plainFor_of_name pn_Model987) (ef_r_procs0 x0) (by decide) (by decide) ?_
  intro p e s m below meth c s₁ hx hby hml hown hnm hret hZ hh e0 X0
  have N0 := Fr.nil n0
  obtain ⟨T1, X1, e1, st1⟩ := getS2 X0 hx hZ hown (host := "") (Or.inl (w7 hw)) Via.refl e0 (Sta.ext O0.2 S_SIZES) (g := (mkF m 7 #[.val (.double x0), .second, .val (.double (FP.l2d (0 : Int64))), .second, vi 0] [z0])) rfl (hb hby d5)
  obtain ⟨T2, X2, e2, st2⟩ := getS2 X1 hx hZ hown (host := "") (Or.inl (w9 hw)) Via.refl e1 (Sta.ext O0.2 S_SHARES) (g := (mkF m 17 #[.val (.double x0), .second, .val (.double (FP.l2d (0 : Int64))), .second, vi 0] [(.double (FP.l2d (0 : Int64)))])) rfl (hb hby d11)
  obtain ⟨T3, X3, e3, st3⟩ := getS2 X2 hx hZ hown (host := "") (Or.inl (w7 hw)) Via.refl e2 (Sta.ext O0.2 S_SIZES) (g := (mkF m 31 #[.val (.double x0), .second, .val (.double (4598557124793677434 : UInt64)), .second, vi 0] [])) rfl (hb hby d20)
  refine ⟨T3, _, some (.int 1), X3, (fun h => by cases h <;> rfl), ?_, fun fs hr => ?_⟩
  · show Q_r_procs0 Z st_SIZES st_SHARES x0 k_st_SIZES k_st_SHARES h0 n0 _ T3.heap _
    rw [e3]
    exact ⟨rfl, N0, rfl⟩
  · refine t_dconst0 1 (r := (FP.l2d (0 : Int64))) X0.here hx (hb hby d0) own_dconst0 rfl ?_
    refine t_dstoreN (pc' := 2) (L' := #[.val (.double x0), .second, .val (.double (FP.l2d (0 : Int64))), .second, .unset]) X0.here hx (hb hby d1) rfl rfl ?_
    refine t_iconst 3 (r := 0) X0.here hx (hb hby d2) (by decide) rfl ?_
    refine t_istore (pc' := 5) (L' := #[.val (.double x0), .second, .val (.double (FP.l2d (0 : Int64))), .second, vi 0]) X0.here hx (hb hby d3) rfl rfl ?_
    refine t_iload 7 X0.here hx (hb hby d4) rfl rfl ?_
    refine st1 _ ?_
    refine own_arlen (pc' := 11) X1 hx hZ e1 V_st_SIZES (hb hby d6) rfl ?_
    refine t_iconst 12 (r := 1) X1.here hx (hb hby d7) (by decide) rfl ?_
    refine t_isub 13 (r := 7) X1.here hx (hb hby d8) (by decide : ((8 : Int32) - (1 : Int32)) = (7 : Int32)) rfl ?_
    refine t_icmpNo 16 X1.here hx (hb hby d9) (by decide) rfl ?_
    refine t_dloadN 17 X1.here hx (hb hby d10) rfl rfl ?_
    refine st2 _ ?_
    refine t_iload 22 X2.here hx (hb hby d12) rfl rfl ?_
    refine own_aldD (pc' := 23) X2 hx hZ e2 V_st_SHARES (j := 0) (v := (.double (4598557124793677434 : UInt64))) (by decide) rfl (hb hby d13) rfl ?_
    refine t_dadd 24 (r := (4598557124793677434 : UInt64)) X2.here hx (hb hby d14) (by unfold Jvm.Free.Fl.NoNaN64; decide +kernel) (by decide +kernel) rfl ?_
    refine t_dstoreN (pc' := 25) (L' := #[.val (.double x0), .second, .val (.double (4598557124793677434 : UInt64)), .second, vi 0]) X2.here hx (hb hby d15) rfl rfl ?_
    refine t_dloadN 26 X2.here hx (hb hby d16) rfl rfl ?_
    refine t_dloadN 27 X2.here hx (hb hby d17) rfl rfl ?_
    refine t_dcmp 28 (r := (cmpValue (FP.dcmp x0 (4598557124793677434 : UInt64)) .g)) X2.here hx (hb hby d18) rfl rfl ?_
    refine t_ifNo 31 X2.here hx (hb hby d19) ((if0 _ _).trans (tlt hp0).2.1) rfl ?_
    refine st3 _ ?_
    refine t_iload 36 X3.here hx (hb hby d21) rfl rfl ?_
    refine own_aldI (pc' := 37) X3 hx hZ e3 V_st_SIZES (j := 0) (v := (.int 1)) (by decide) rfl (hb hby d22) rfl ?_
    exact retI X3 hx hret (hb hby d23) hr
theorem d24 : decode b0_ 38 = .ok (.iinc 4 1, 3) := by decide +kernel
theorem d25 : decode b0_ 41 = .ok (.goto (-36), 3) := by decide +kernel
def Q_r_procs1 (Z : State) (st_SIZES st_SHARES : Addr) (x0 : UInt64) (k_st_SIZES k_st_SHARES : ClassId) (h0 : Heap) (n0 : Nat) (v : Option Value) (h : Heap) (L : List Loc) : Prop := v = some (.int 2) ∧ Fr n0 L ∧ h = h0
theorem ef_r_procs1 (x0 : UInt64) (m : MethodId) : entryFrame m #[(.double x0)] 5 = mkF m 0 #[.val (.double x0), .second, .unset, .unset, .unset] [] := by first | (simp [entryFrame, mkF, argsToLocals, Value.category]; done) | rfl
set_option maxRecDepth 65536 in
set_option maxHeartbeats 40000000 in
theorem r_procs1 (l : Launch) (Z : State) (a0 : Array Value) (hw : HW Z a0) (ws : List Jvm.Cond) (st_SIZES st_SHARES : Addr) (x0 : UInt64) (k_st_SIZES k_st_SHARES : ClassId) (h0 : Heap) (n0 : Nat) (Z0 : n0 ≤ h0.size) (S_SIZES : Sta Z Z.heap "com/example/bourse/bourse/workload/Model" "SIZES" "[I" (.ref st_SIZES)) (O0 : Old Z n0 h0) (V_st_SIZES : Arv Z h0 st_SIZES k_st_SIZES .int 8 [(.int 1), (.int 2), (.int 4), (.int 8), (.int 16), (.int 32), (.int 64), (.int 128)] z0) (S_SHARES : Sta Z Z.heap "com/example/bourse/bourse/workload/Model" "SHARES" "[D" (.ref st_SHARES)) (V_st_SHARES : Arv Z h0 st_SHARES k_st_SHARES .double 8 [(.double (4598557124793677434 : UInt64)), (.double (4591942237660995650 : UInt64)), (.double (4594406607377092785 : UInt64)), (.double (4593080747646794911 : UInt64)), (.double (4592172821961917019 : UInt64)), (.double (4595552323122295839 : UInt64)), (.double (4589578748576551613 : UInt64)), (.double (4580268907426851324 : UInt64))] (.double (FP.l2d (0 : Int64)))) (hp0 : ¬ ((cmpValue (FP.dcmp x0 (4598557124793677434 : UInt64)) .g) < (0 : Int32))) (hp1 : (cmpValue (FP.dcmp x0 (4600376579043135114 : UInt64)) .g) < (0 : Int32)) :
    MF l Z y0_procs b0_ 5 (some .int) ws ⟨0, 0, 0, 0⟩ #[(.double x0)] h0 (Q_r_procs1 Z st_SIZES st_SHARES x0 k_st_SIZES k_st_SHARES h0 n0) := by
  refine own_body (plainFor_of_name pn_Model987) (ef_r_procs1 x0) (by decide) (by decide) ?_
  intro p e s m below meth c s₁ hx hby hml hown hnm hret hZ hh e0 X0
  have N0 := Fr.nil n0
  obtain ⟨T1, X1, e1, st1⟩ := getS2 X0 hx hZ hown (host := "") (Or.inl (w7 hw)) Via.refl e0 (Sta.ext O0.2 S_SIZES) (g := (mkF m 7 #[.val (.double x0), .second, .val (.double (FP.l2d (0 : Int64))), .second, vi 0] [z0])) rfl (hb hby d5)
  obtain ⟨T2, X2, e2, st2⟩ := getS2 X1 hx hZ hown (host := "") (Or.inl (w9 hw)) Via.refl e1 (Sta.ext O0.2 S_SHARES) (g := (mkF m 17 #[.val (.double x0), .second, .val (.double (FP.l2d (0 : Int64))), .second, vi 0] [(.double (FP.l2d (0 : Int64)))])) rfl (hb hby d11)
  obtain ⟨T3, X3, e3, st3⟩ := getS2 X2 hx hZ hown (host := "") (Or.inl (w7 hw)) Via.refl e2 (Sta.ext O0.2 S_SIZES) (g := (mkF m 7 #[.val (.double x0), .second, .val (.double (4598557124793677434 : UInt64)), .second, vi 1] [(.int 1)])) rfl (hb hby d5)
  obtain ⟨T4, X4, e4, st4⟩ := getS2 X3 hx hZ hown (host := "") (Or.inl (w9 hw)) Via.refl e3 (Sta.ext O0.2 S_SHARES) (g := (mkF m 17 #[.val (.double x0), .second, .val (.double (4598557124793677434 : UInt64)), .second, vi 1] [(.double (4598557124793677434 : UInt64))])) rfl (hb hby d11)
  obtain ⟨T5, X5, e5, st5⟩ := getS2 X4 hx hZ hown (host := "") (Or.inl (w7 hw)) Via.refl e4 (Sta.ext O0.2 S_SIZES) (g := (mkF m 31 #[.val (.double x0), .second, .val (.double (4600376579043135114 : UInt64)), .second, vi 1] [])) rfl (hb hby d20)
  refine ⟨T5, _, some (.int 2), X5, (fun h => by cases h <;> rfl), ?_, fun fs hr => ?_⟩
  · show Q_r_procs1 Z st_SIZES st_SHARES x0 k_st_SIZES k_st_SHARES h0 n0 _ T5.heap _
    rw [e5]
    exact ⟨rfl, N0, rfl⟩
  · refine t_dconst0 1 (r := (FP.l2d (0 : Int64))) X0.here hx (hb hby d0) own_dconst0 rfl ?_
    refine t_dstoreN (pc' := 2) (L' := #[.val (.double x0), .second, .val (.double (FP.l2d (0 : Int64))), .second, .unset]) X0.here hx (hb hby d1) rfl rfl ?_
    refine t_iconst 3 (r := 0) X0.here hx (hb hby d2) (by decide) rfl ?_
    refine t_istore (pc' := 5) (L' := #[.val (.double x0), .second, .val (.double (FP.l2d (0 : Int64))), .second, vi 0]) X0.here hx (hb hby d3) rfl rfl ?_
    refine t_iload 7 X0.here hx (hb hby d4) rfl rfl ?_
    refine st1 _ ?_
    refine own_arlen (pc' := 11) X1 hx hZ e1 V_st_SIZES (hb hby d6) rfl ?_
    refine t_iconst 12 (r := 1) X1.here hx (hb hby d7) (by decide) rfl ?_
    refine t_isub 13 (r := 7) X1.here hx (hb hby d8) (by decide : ((8 : Int32) - (1 : Int32)) = (7 : Int32)) rfl ?_
    refine t_icmpNo 16 X1.here hx (hb hby d9) (by decide) rfl ?_
    refine t_dloadN 17 X1.here hx (hb hby d10) rfl rfl ?_
    refine st2 _ ?_
    refine t_iload 22 X2.here hx (hb hby d12) rfl rfl ?_
    refine own_aldD (pc' := 23) X2 hx hZ e2 V_st_SHARES (j := 0) (v := (.double (4598557124793677434 : UInt64))) (by decide) rfl (hb hby d13) rfl ?_
    refine t_dadd 24 (r := (4598557124793677434 : UInt64)) X2.here hx (hb hby d14) (by unfold Jvm.Free.Fl.NoNaN64; decide +kernel) (by decide +kernel) rfl ?_
    refine t_dstoreN (pc' := 25) (L' := #[.val (.double x0), .second, .val (.double (4598557124793677434 : UInt64)), .second, vi 0]) X2.here hx (hb hby d15) rfl rfl ?_
    refine t_dloadN 26 X2.here hx (hb hby d16) rfl rfl ?_
    refine t_dloadN 27 X2.here hx (hb hby d17) rfl rfl ?_
    refine t_dcmp 28 (r := (cmpValue (FP.dcmp x0 (4598557124793677434 : UInt64)) .g)) X2.here hx (hb hby d18) rfl rfl ?_
    refine t_ifYes (pc := 28) 38 X2.here hx (hb hby d19) ((if0 _ _).trans (flt hp0).2.1) (by decide) (by decide) ?_
    refine t_iinc (pc' := 41) (L' := #[.val (.double x0), .second, .val (.double (4598557124793677434 : UInt64)), .second, vi 1]) X2.here hx (hb hby d24) rfl (by first | rfl | decide) rfl ?_
    refine t_goto (pc := 41) 5 X2.here hx (hb hby d25) (by decide) (by decide) ?_
    refine t_iload 7 X2.here hx (hb hby d4) rfl rfl ?_
    refine st3 _ ?_
    refine own_arlen (pc' := 11) X3 hx hZ e3 V_st_SIZES (hb hby d6) rfl ?_
    refine t_iconst 12 (r := 1) X3.here hx (hb hby d7) (by decide) rfl ?_
    refine t_isub 13 (r := 7) X3.here hx (hb hby d8) (by decide : ((8 : Int32) - (1 : Int32)) = (7 : Int32)) rfl ?_
    refine t_icmpNo 16 X3.here hx (hb hby d9) (by decide) rfl ?_
    refine t_dloadN 17 X3.here hx (hb hby d10) rfl rfl ?_
    refine st4 _ ?_
    refine t_iload 22 X4.here hx (hb hby d12) rfl rfl ?_
    refine own_aldD (pc' := 23) X4 hx hZ e4 V_st_SHARES (j := 1) (v := (.double (4591942237660995650 : UInt64))) (by decide) rfl (hb hby d13) rfl ?_
    refine t_dadd 24 (r := (4600376579043135114 : UInt64)) X4.here hx (hb hby d14) (by unfold Jvm.Free.Fl.NoNaN64; decide +kernel) (by decide +kernel) rfl ?_
    refine t_dstoreN (pc' := 25) (L' := #[.val (.double x0), .second, .val (.double (4600376579043135114 : UInt64)), .second, vi 1]) X4.here hx (hb hby d15) rfl rfl ?_
    refine t_dloadN 26 X4.here hx (hb hby d16) rfl rfl ?_
    refine t_dloadN 27 X4.here hx (hb hby d17) rfl rfl ?_
    refine t_dcmp 28 (r := (cmpValue (FP.dcmp x0 (4600376579043135114 : UInt64)) .g)) X4.here hx (hb hby d18) rfl rfl ?_
    refine t_ifNo 31 X4.here hx (hb hby d19) ((if0 _ _).trans (tlt hp1).2.1) rfl ?_
    refine st5 _ ?_
    refine t_iload 36 X5.here hx (hb hby d21) rfl rfl ?_
    refine own_aldI (pc' := 37) X5 hx hZ e5 V_st_SIZES (j := 1) (v := (.int 2)) (by decide) rfl (hb hby d22) rfl ?_
    exact retI X5 hx hret (hb hby d23) hr
def Q_r_procs2 (Z : State) (st_SIZES st_SHARES : Addr) (x0 : UInt64) (k_st_SIZES k_st_SHARES : ClassId) (h0 : Heap) (n0 : Nat) (v : Option Value) (h : Heap) (L : List Loc) : Prop := v = some (.int 4) ∧ Fr n0 L ∧ h = h0
theorem ef_r_procs2 (x0 : UInt64) (m : MethodId) : entryFrame m #[(.double x0)] 5 = mkF m 0 #[.val (.double x0), .second, .unset, .unset, .unset] [] := by first | (simp [entryFrame, mkF, argsToLocals, Value.category]; done) | rfl
set_option maxRecDepth 65536 in
set_option maxHeartbeats 40000000 in
theorem r_procs2 (l : Launch) (Z : State) (a0 : Array Value) (hw : HW Z a0) (ws : List Jvm.Cond) (st_SIZES st_SHARES : Addr) (x0 : UInt64) (k_st_SIZES k_st_SHARES : ClassId) (h0 : Heap) (n0 : Nat) (Z0 : n0 ≤ h0.size) (S_SIZES : Sta Z Z.heap "com/example/bourse/bourse/workload/Model" "SIZES" "[I" (.ref st_SIZES)) (O0 : Old Z n0 h0) (V_st_SIZES : Arv Z h0 st_SIZES k_st_SIZES .int 8 [(.int 1), (.int 2), (.int 4), (.int 8), (.int 16), (.int 32), (.int 64), (.int 128)] z0) (S_SHARES : Sta Z Z.heap "com/example/bourse/bourse/workload/Model" "SHARES" "[D" (.ref st_SHARES)) (V_st_SHARES : Arv Z h0 st_SHARES k_st_SHARES .double 8 [(.double (4598557124793677434 : UInt64)), (.double (4591942237660995650 : UInt64)), (.double (4594406607377092785 : UInt64)), (.double (4593080747646794911 : UInt64)), (.double (4592172821961917019 : UInt64)), (.double (4595552323122295839 : UInt64)), (.double (4589578748576551613 : UInt64)), (.double (4580268907426851324 : UInt64))] (.double (FP.l2d (0 : Int64)))) (hp0 : ¬ ((cmpValue (FP.dcmp x0 (4598557124793677434 : UInt64)) .g) < (0 : Int32))) (hp1 : ¬ ((cmpValue (FP.dcmp x0 (4600376579043135114 : UInt64)) .g) < (0 : Int32))) (hp2 : (cmpValue (FP.dcmp x0 (4602837345879530353 : UInt64)) .g) < (0 : Int32)) :
    MF l Z y0_procs b0_ 5 (some .int) ws ⟨0, 0, 0, 0⟩ #[(.double x0)] h0 (Q_r_procs2 Z st_SIZES st_SHARES x0 k_st_SIZES k_st_SHARES h0 n0) := by
  refine own_body (plainFor_of_name pn_Model987) (ef_r_procs2 x0) (by decide) (by decide) ?_
  intro p e s m below meth c s₁ hx hby hml hown hnm hret hZ hh e0 X0
  have N0 := Fr.nil n0
  obtain ⟨T1, X1, e1, st1⟩ := getS2 X0 hx hZ hown (host := "") (Or.inl (w7 hw)) Via.refl e0 (Sta.ext O0.2 S_SIZES) (g := (mkF m 7 #[.val (.double x0), .second, .val (.double (FP.l2d (0 : Int64))), .second, vi 0] [z0])) rfl (hb hby d5)
  obtain ⟨T2, X2, e2, st2⟩ := getS2 X1 hx hZ hown (host := "") (Or.inl (w9 hw)) Via.refl e1 (Sta.ext O0.2 S_SHARES) (g := (mkF m 17 #[.val (.double x0), .second, .val (.double (FP.l2d (0 : Int64))), .second, vi 0] [(.double (FP.l2d (0 : Int64)))])) rfl (hb hby d11)
  obtain ⟨T3, X3, e3, st3⟩ := getS2 X2 hx hZ hown (host := "") (Or.inl (w7 hw)) Via.refl e2 (Sta.ext O0.2 S_SIZES) (g := (mkF m 7 #[.val (.double x0), .second, .val (.double (4598557124793677434 : UInt64)), .second, vi 1] [(.int 1)])) rfl (hb hby d5)
  obtain ⟨T4, X4, e4, st4⟩ := getS2 X3 hx hZ hown (host := "") (Or.inl (w9 hw)) Via.refl e3 (Sta.ext O0.2 S_SHARES) (g := (mkF m 17 #[.val (.double x0), .second, .val (.double (4598557124793677434 : UInt64)), .second, vi 1] [(.double (4598557124793677434 : UInt64))])) rfl (hb hby d11)
  obtain ⟨T5, X5, e5, st5⟩ := getS2 X4 hx hZ hown (host := "") (Or.inl (w7 hw)) Via.refl e4 (Sta.ext O0.2 S_SIZES) (g := (mkF m 7 #[.val (.double x0), .second, .val (.double (4600376579043135114 : UInt64)), .second, vi 2] [(.int 2)])) rfl (hb hby d5)
  obtain ⟨T6, X6, e6, st6⟩ := getS2 X5 hx hZ hown (host := "") (Or.inl (w9 hw)) Via.refl e5 (Sta.ext O0.2 S_SHARES) (g := (mkF m 17 #[.val (.double x0), .second, .val (.double (4600376579043135114 : UInt64)), .second, vi 2] [(.double (4600376579043135114 : UInt64))])) rfl (hb hby d11)
  obtain ⟨T7, X7, e7, st7⟩ := getS2 X6 hx hZ hown (host := "") (Or.inl (w7 hw)) Via.refl e6 (Sta.ext O0.2 S_SIZES) (g := (mkF m 31 #[.val (.double x0), .second, .val (.double (4602837345879530353 : UInt64)), .second, vi 2] [])) rfl (hb hby d20)
  refine ⟨T7, _, some (.int 4), X7, (fun h => by cases h <;> rfl), ?_, fun fs hr => ?_⟩
  · show Q_r_procs2 Z st_SIZES st_SHARES x0 k_st_SIZES k_st_SHARES h0 n0 _ T7.heap _
    rw [e7]
    exact ⟨rfl, N0, rfl⟩
  · refine t_dconst0 1 (r := (FP.l2d (0 : Int64))) X0.here hx (hb hby d0) own_dconst0 rfl ?_
    refine t_dstoreN (pc' := 2) (L' := #[.val (.double x0), .second, .val (.double (FP.l2d (0 : Int64))), .second, .unset]) X0.here hx (hb hby d1) rfl rfl ?_
    refine t_iconst 3 (r := 0) X0.here hx (hb hby d2) (by decide) rfl ?_
    refine t_istore (pc' := 5) (L' := #[.val (.double x0), .second, .val (.double (FP.l2d (0 : Int64))), .second, vi 0]) X0.here hx (hb hby d3) rfl rfl ?_
    refine t_iload 7 X0.here hx (hb hby d4) rfl rfl ?_
    refine st1 _ ?_
    refine own_arlen (pc' := 11) X1 hx hZ e1 V_st_SIZES (hb hby d6) rfl ?_
    refine t_iconst 12 (r := 1) X1.here hx (hb hby d7) (by decide) rfl ?_
    refine t_isub 13 (r := 7) X1.here hx (hb hby d8) (by decide : ((8 : Int32) - (1 : Int32)) = (7 : Int32)) rfl ?_
    refine t_icmpNo 16 X1.here hx (hb hby d9) (by decide) rfl ?_
    refine t_dloadN 17 X1.here hx (hb hby d10) rfl rfl ?_
    refine st2 _ ?_
    refine t_iload 22 X2.here hx (hb hby d12) rfl rfl ?_
    refine own_aldD (pc' := 23) X2 hx hZ e2 V_st_SHARES (j := 0) (v := (.double (4598557124793677434 : UInt64))) (by decide) rfl (hb hby d13) rfl ?_
    refine t_dadd 24 (r := (4598557124793677434 : UInt64)) X2.here hx (hb hby d14) (by unfold Jvm.Free.Fl.NoNaN64; decide +kernel) (by decide +kernel) rfl ?_
    refine t_dstoreN (pc' := 25) (L' := #[.val (.double x0), .second, .val (.double (4598557124793677434 : UInt64)), .second, vi 0]) X2.here hx (hb hby d15) rfl rfl ?_
    refine t_dloadN 26 X2.here hx (hb hby d16) rfl rfl ?_
    refine t_dloadN 27 X2.here hx (hb hby d17) rfl rfl ?_
    refine t_dcmp 28 (r := (cmpValue (FP.dcmp x0 (4598557124793677434 : UInt64)) .g)) X2.here hx (hb hby d18) rfl rfl ?_
    refine t_ifYes (pc := 28) 38 X2.here hx (hb hby d19) ((if0 _ _).trans (flt hp0).2.1) (by decide) (by decide) ?_
    refine t_iinc (pc' := 41) (L' := #[.val (.double x0), .second, .val (.double (4598557124793677434 : UInt64)), .second, vi 1]) X2.here hx (hb hby d24) rfl (by first | rfl | decide) rfl ?_
    refine t_goto (pc := 41) 5 X2.here hx (hb hby d25) (by decide) (by decide) ?_
    refine t_iload 7 X2.here hx (hb hby d4) rfl rfl ?_
    refine st3 _ ?_
    refine own_arlen (pc' := 11) X3 hx hZ e3 V_st_SIZES (hb hby d6) rfl ?_
    refine t_iconst 12 (r := 1) X3.here hx (hb hby d7) (by decide) rfl ?_
    refine t_isub 13 (r := 7) X3.here hx (hb hby d8) (by decide : ((8 : Int32) - (1 : Int32)) = (7 : Int32)) rfl ?_
    refine t_icmpNo 16 X3.here hx (hb hby d9) (by decide) rfl ?_
    refine t_dloadN 17 X3.here hx (hb hby d10) rfl rfl ?_
    refine st4 _ ?_
    refine t_iload 22 X4.here hx (hb hby d12) rfl rfl ?_
    refine own_aldD (pc' := 23) X4 hx hZ e4 V_st_SHARES (j := 1) (v := (.double (4591942237660995650 : UInt64))) (by decide) rfl (hb hby d13) rfl ?_
    refine t_dadd 24 (r := (4600376579043135114 : UInt64)) X4.here hx (hb hby d14) (by unfold Jvm.Free.Fl.NoNaN64; decide +kernel) (by decide +kernel) rfl ?_
    refine t_dstoreN (pc' := 25) (L' := #[.val (.double x0), .second, .val (.double (4600376579043135114 : UInt64)), .second, vi 1]) X4.here hx (hb hby d15) rfl rfl ?_
    refine t_dloadN 26 X4.here hx (hb hby d16) rfl rfl ?_
    refine t_dloadN 27 X4.here hx (hb hby d17) rfl rfl ?_
    refine t_dcmp 28 (r := (cmpValue (FP.dcmp x0 (4600376579043135114 : UInt64)) .g)) X4.here hx (hb hby d18) rfl rfl ?_
    refine t_ifYes (pc := 28) 38 X4.here hx (hb hby d19) ((if0 _ _).trans (flt hp1).2.1) (by decide) (by decide) ?_
    refine t_iinc (pc' := 41) (L' := #[.val (.double x0), .second, .val (.double (4600376579043135114 : UInt64)), .second, vi 2]) X4.here hx (hb hby d24) rfl (by first | rfl | decide) rfl ?_
    refine t_goto (pc := 41) 5 X4.here hx (hb hby d25) (by decide) (by decide) ?_
    refine t_iload 7 X4.here hx (hb hby d4) rfl rfl ?_
    refine st5 _ ?_
    refine own_arlen (pc' := 11) X5 hx hZ e5 V_st_SIZES (hb hby d6) rfl ?_
    refine t_iconst 12 (r := 1) X5.here hx (hb hby d7) (by decide) rfl ?_
    refine t_isub 13 (r := 7) X5.here hx (hb hby d8) (by decide : ((8 : Int32) - (1 : Int32)) = (7 : Int32)) rfl ?_
    refine t_icmpNo 16 X5.here hx (hb hby d9) (by decide) rfl ?_
    refine t_dloadN 17 X5.here hx (hb hby d10) rfl rfl ?_
    refine st6 _ ?_
    refine t_iload 22 X6.here hx (hb hby d12) rfl rfl ?_
    refine own_aldD (pc' := 23) X6 hx hZ e6 V_st_SHARES (j := 2) (v := (.double (4594406607377092785 : UInt64))) (by decide) rfl (hb hby d13) rfl ?_
    refine t_dadd 24 (r := (4602837345879530353 : UInt64)) X6.here hx (hb hby d14) (by unfold Jvm.Free.Fl.NoNaN64; decide +kernel) (by decide +kernel) rfl ?_
    refine t_dstoreN (pc' := 25) (L' := #[.val (.double x0), .second, .val (.double (4602837345879530353 : UInt64)), .second, vi 2]) X6.here hx (hb hby d15) rfl rfl ?_
    refine t_dloadN 26 X6.here hx (hb hby d16) rfl rfl ?_
    refine t_dloadN 27 X6.here hx (hb hby d17) rfl rfl ?_
    refine t_dcmp 28 (r := (cmpValue (FP.dcmp x0 (4602837345879530353 : UInt64)) .g)) X6.here hx (hb hby d18) rfl rfl ?_
    refine t_ifNo 31 X6.here hx (hb hby d19) ((if0 _ _).trans (tlt hp2).2.1) rfl ?_
    refine st7 _ ?_
    refine t_iload 36 X7.here hx (hb hby d21) rfl rfl ?_
    refine own_aldI (pc' := 37) X7 hx hZ e7 V_st_SIZES (j := 2) (v := (.int 4)) (by decide) rfl (hb hby d22) rfl ?_
    exact retI X7 hx hret (hb hby d23) hr
def Q_r_procs3 (Z : State) (st_SIZES st_SHARES : Addr) (x0 : UInt64) (k_st_SIZES k_st_SHARES : ClassId) (h0 : Heap) (n0 : Nat) (v : Option Value) (h : Heap) (L : List Loc) : Prop := v = some (.int 8) ∧ Fr n0 L ∧ h = h0
theorem ef_r_procs3 (x0 : UInt64) (m : MethodId) : entryFrame m #[(.double x0)] 5 = mkF m 0 #[.val (.double x0), .second, .unset, .unset, .unset] [] := by first | (simp [entryFrame, mkF, argsToLocals, Value.category]; done) | rfl
set_option maxRecDepth 65536 in
set_option maxHeartbeats 40000000 in
theorem r_procs3 (l : Launch) (Z : State) (a0 : Array Value) (hw : HW Z a0) (ws : List Jvm.Cond) (st_SIZES st_SHARES : Addr) (x0 : UInt64) (k_st_SIZES k_st_SHARES : ClassId) (h0 : Heap) (n0 : Nat) (Z0 : n0 ≤ h0.size) (S_SIZES : Sta Z Z.heap "com/example/bourse/bourse/workload/Model" "SIZES" "[I" (.ref st_SIZES)) (O0 : Old Z n0 h0) (V_st_SIZES : Arv Z h0 st_SIZES k_st_SIZES .int 8 [(.int 1), (.int 2), (.int 4), (.int 8), (.int 16), (.int 32), (.int 64), (.int 128)] z0) (S_SHARES : Sta Z Z.heap "com/example/bourse/bourse/workload/Model" "SHARES" "[D" (.ref st_SHARES)) (V_st_SHARES : Arv Z h0 st_SHARES k_st_SHARES .double 8 [(.double (4598557124793677434 : UInt64)), (.double (4591942237660995650 : UInt64)), (.double (4594406607377092785 : UInt64)), (.double (4593080747646794911 : UInt64)), (.double (4592172821961917019 : UInt64)), (.double (4595552323122295839 : UInt64)), (.double (4589578748576551613 : UInt64)), (.double (4580268907426851324 : UInt64))] (.double (FP.l2d (0 : Int64)))) (hp0 : ¬ ((cmpValue (FP.dcmp x0 (4598557124793677434 : UInt64)) .g) < (0 : Int32))) (hp1 : ¬ ((cmpValue (FP.dcmp x0 (4600376579043135114 : UInt64)) .g) < (0 : Int32))) (hp2 : ¬ ((cmpValue (FP.dcmp x0 (4602837345879530353 : UInt64)) .g) < (0 : Int32))) (hp3 : (cmpValue (FP.dcmp x0 (4603889386752484101 : UInt64)) .g) < (0 : Int32)) :
    MF l Z y0_procs b0_ 5 (some .int) ws ⟨0, 0, 0, 0⟩ #[(.double x0)] h0 (Q_r_procs3 Z st_SIZES st_SHARES x0 k_st_SIZES k_st_SHARES h0 n0) := by
  refine own_body (plainFor_of_name pn_Model987) (ef_r_procs3 x0) (by decide) (by decide) ?_
  intro p e s m below meth c s₁ hx hby hml hown hnm hret hZ hh e0 X0
  have N0 := Fr.nil n0
  obtain ⟨T1, X1, e1, st1⟩ := getS2 X0 hx hZ hown (host := "") (Or.inl (w7 hw)) Via.refl e0 (Sta.ext O0.2 S_SIZES) (g := (mkF m 7 #[.val (.double x0), .second, .val (.double (FP.l2d (0 : Int64))), .second, vi 0] [z0])) rfl (hb hby d5)
  obtain ⟨T2, X2, e2, st2⟩ := getS2 X1 hx hZ hown (host := "") (Or.inl (w9 hw)) Via.refl e1 (Sta.ext O0.2 S_SHARES) (g := (mkF m 17 #[.val (.double x0), .second, .val (.double (FP.l2d (0 : Int64))), .second, vi 0] [(.double (FP.l2d (0 : Int64)))])) rfl (hb hby d11)
  obtain ⟨T3, X3, e3, st3⟩ := getS2 X2 hx hZ hown (host := "") (Or.inl (w7 hw)) Via.refl e2 (Sta.ext O0.2 S_SIZES) (g := (mkF m 7 #[.val (.double x0), .second, .val (.double (4598557124793677434 : UInt64)), .second, vi 1] [(.int 1)])) rfl (hb hby d5)
  obtain ⟨T4, X4, e4, st4⟩ := getS2 X3 hx hZ hown (host := "") (Or.inl (w9 hw)) Via.refl e3 (Sta.ext O0.2 S_SHARES) (g := (mkF m 17 #[.val (.double x0), .second, .val (.double (4598557124793677434 : UInt64)), .second, vi 1] [(.double (4598557124793677434 : UInt64))])) rfl (hb hby d11)
  obtain ⟨T5, X5, e5, st5⟩ := getS2 X4 hx hZ hown (host := "") (Or.inl (w7 hw)) Via.refl e4 (Sta.ext O0.2 S_SIZES) (g := (mkF m 7 #[.val (.double x0), .second, .val (.double (4600376579043135114 : UInt64)), .second, vi 2] [(.int 2)])) rfl (hb hby d5)
  obtain ⟨T6, X6, e6, st6⟩ := getS2 X5 hx hZ hown (host := "") (Or.inl (w9 hw)) Via.refl e5 (Sta.ext O0.2 S_SHARES) (g := (mkF m 17 #[.val (.double x0), .second, .val (.double (4600376579043135114 : UInt64)), .second, vi 2] [(.double (4600376579043135114 : UInt64))])) rfl (hb hby d11)
  obtain ⟨T7, X7, e7, st7⟩ := getS2 X6 hx hZ hown (host := "") (Or.inl (w7 hw)) Via.refl e6 (Sta.ext O0.2 S_SIZES) (g := (mkF m 7 #[.val (.double x0), .second, .val (.double (4602837345879530353 : UInt64)), .second, vi 3] [(.int 3)])) rfl (hb hby d5)
  obtain ⟨T8, X8, e8, st8⟩ := getS2 X7 hx hZ hown (host := "") (Or.inl (w9 hw)) Via.refl e7 (Sta.ext O0.2 S_SHARES) (g := (mkF m 17 #[.val (.double x0), .second, .val (.double (4602837345879530353 : UInt64)), .second, vi 3] [(.double (4602837345879530353 : UInt64))])) rfl (hb hby d11)
  obtain ⟨T9, X9, e9, st9⟩ := getS2 X8 hx hZ hown (host := "") (Or.inl (w7 hw)) Via.refl e8 (Sta.ext O0.2 S_SIZES) (g := (mkF m 31 #[.val (.double x0), .second, .val (.double (4603889386752484101 : UInt64)), .second, vi 3] [])) rfl (hb hby d20)
  refine ⟨T9, _, some (.int 8), X9, (fun h => by cases h <;> rfl), ?_, fun fs hr => ?_⟩
  · show Q_r_procs3 Z st_SIZES st_SHARES x0 k_st_SIZES k_st_SHARES h0 n0 _ T9.heap _
    rw [e9]
    exact ⟨rfl, N0, rfl⟩
  · refine t_dconst0 1 (r := (FP.l2d (0 : Int64))) X0.here hx (hb hby d0) own_dconst0 rfl ?_
    refine t_dstoreN (pc' := 2) (L' := #[.val (.double x0), .second, .val (.double (FP.l2d (0 : Int64))), .second, .unset]) X0.here hx (hb hby d1) rfl rfl ?_
    refine t_iconst 3 (r := 0) X0.here hx (hb hby d2) (by decide) rfl ?_
    refine t_istore (pc' := 5) (L' := #[.val (.double x0), .second, .val (.double (FP.l2d (0 : Int64))), .second, vi 0]) X0.here hx (hb hby d3) rfl rfl ?_
    refine t_iload 7 X0.here hx (hb hby d4) rfl rfl ?_
    refine st1 _ ?_
    refine own_arlen (pc' := 11) X1 hx hZ e1 V_st_SIZES (hb hby d6) rfl ?_
    refine t_iconst 12 (r := 1) X1.here hx (hb hby d7) (by decide) rfl ?_
    refine t_isub 13 (r := 7) X1.here hx (hb hby d8) (by decide : ((8 : Int32) - (1 : Int32)) = (7 : Int32)) rfl ?_
    refine t_icmpNo 16 X1.here hx (hb hby d9) (by decide) rfl ?_
    refine t_dloadN 17 X1.here hx (hb hby d10) rfl rfl ?_
    refine st2 _ ?_
    refine t_iload 22 X2.here hx (hb hby d12) rfl rfl ?_
    refine own_aldD (pc' := 23) X2 hx hZ e2 V_st_SHARES (j := 0) (v := (.double (4598557124793677434 : UInt64))) (by decide) rfl (hb hby d13) rfl ?_
    refine t_dadd 24 (r := (4598557124793677434 : UInt64)) X2.here hx (hb hby d14) (by unfold Jvm.Free.Fl.NoNaN64; decide +kernel) (by decide +kernel) rfl ?_
    refine t_dstoreN (pc' := 25) (L' := #[.val (.double x0), .second, .val (.double (4598557124793677434 : UInt64)), .second, vi 0]) X2.here hx (hb hby d15) rfl rfl ?_
    refine t_dloadN 26 X2.here hx (hb hby d16) rfl rfl ?_
    refine t_dloadN 27 X2.here hx (hb hby d17) rfl rfl ?_
    refine t_dcmp 28 (r := (cmpValue (FP.dcmp x0 (4598557124793677434 : UInt64)) .g)) X2.here hx (hb hby d18) rfl rfl ?_
    refine t_ifYes (pc := 28) 38 X2.here hx (hb hby d19) ((if0 _ _).trans (flt hp0).2.1) (by decide) (by decide) ?_
    refine t_iinc (pc' := 41) (L' := #[.val (.double x0), .second, .val (.double (4598557124793677434 : UInt64)), .second, vi 1]) X2.here hx (hb hby d24) rfl (by first | rfl | decide) rfl ?_
    refine t_goto (pc := 41) 5 X2.here hx (hb hby d25) (by decide) (by decide) ?_
    refine t_iload 7 X2.here hx (hb hby d4) rfl rfl ?_
    refine st3 _ ?_
    refine own_arlen (pc' := 11) X3 hx hZ e3 V_st_SIZES (hb hby d6) rfl ?_
    refine t_iconst 12 (r := 1) X3.here hx (hb hby d7) (by decide) rfl ?_
    refine t_isub 13 (r := 7) X3.here hx (hb hby d8) (by decide : ((8 : Int32) - (1 : Int32)) = (7 : Int32)) rfl ?_
    refine t_icmpNo 16 X3.here hx (hb hby d9) (by decide) rfl ?_
    refine t_dloadN 17 X3.here hx (hb hby d10) rfl rfl ?_
    refine st4 _ ?_
    refine t_iload 22 X4.here hx (hb hby d12) rfl rfl ?_
    refine own_aldD (pc' := 23) X4 hx hZ e4 V_st_SHARES (j := 1) (v := (.double (4591942237660995650 : UInt64))) (by decide) rfl (hb hby d13) rfl ?_
    refine t_dadd 24 (r := (4600376579043135114 : UInt64)) X4.here hx (hb hby d14) (by unfold Jvm.Free.Fl.NoNaN64; decide +kernel) (by decide +kernel) rfl ?_
    refine t_dstoreN (pc' := 25) (L' := #[.val (.double x0), .second, .val (.double (4600376579043135114 : UInt64)), .second, vi 1]) X4.here hx (hb hby d15) rfl rfl ?_
    refine t_dloadN 26 X4.here hx (hb hby d16) rfl rfl ?_
    refine t_dloadN 27 X4.here hx (hb hby d17) rfl rfl ?_
    refine t_dcmp 28 (r := (cmpValue (FP.dcmp x0 (4600376579043135114 : UInt64)) .g)) X4.here hx (hb hby d18) rfl rfl ?_
    refine t_ifYes (pc := 28) 38 X4.here hx (hb hby d19) ((if0 _ _).trans (flt hp1).2.1) (by decide) (by decide) ?_
    refine t_iinc (pc' := 41) (L' := #[.val (.double x0), .second, .val (.double (4600376579043135114 : UInt64)), .second, vi 2]) X4.here hx (hb hby d24) rfl (by first | rfl | decide) rfl ?_
    refine t_goto (pc := 41) 5 X4.here hx (hb hby d25) (by decide) (by decide) ?_
    refine t_iload 7 X4.here hx (hb hby d4) rfl rfl ?_
    refine st5 _ ?_
    refine own_arlen (pc' := 11) X5 hx hZ e5 V_st_SIZES (hb hby d6) rfl ?_
    refine t_iconst 12 (r := 1) X5.here hx (hb hby d7) (by decide) rfl ?_
    refine t_isub 13 (r := 7) X5.here hx (hb hby d8) (by decide : ((8 : Int32) - (1 : Int32)) = (7 : Int32)) rfl ?_
    refine t_icmpNo 16 X5.here hx (hb hby d9) (by decide) rfl ?_
    refine t_dloadN 17 X5.here hx (hb hby d10) rfl rfl ?_
    refine st6 _ ?_
    refine t_iload 22 X6.here hx (hb hby d12) rfl rfl ?_
    refine own_aldD (pc' := 23) X6 hx hZ e6 V_st_SHARES (j := 2) (v := (.double (4594406607377092785 : UInt64))) (by decide) rfl (hb hby d13) rfl ?_
    refine t_dadd 24 (r := (4602837345879530353 : UInt64)) X6.here hx (hb hby d14) (by unfold Jvm.Free.Fl.NoNaN64; decide +kernel) (by decide +kernel) rfl ?_
    refine t_dstoreN (pc' := 25) (L' := #[.val (.double x0), .second, .val (.double (4602837345879530353 : UInt64)), .second, vi 2]) X6.here hx (hb hby d15) rfl rfl ?_
    refine t_dloadN 26 X6.here hx (hb hby d16) rfl rfl ?_
    refine t_dloadN 27 X6.here hx (hb hby d17) rfl rfl ?_
    refine t_dcmp 28 (r := (cmpValue (FP.dcmp x0 (4602837345879530353 : UInt64)) .g)) X6.here hx (hb hby d18) rfl rfl ?_
    refine t_ifYes (pc := 28) 38 X6.here hx (hb hby d19) ((if0 _ _).trans (flt hp2).2.1) (by decide) (by decide) ?_
    refine t_iinc (pc' := 41) (L' := #[.val (.double x0), .second, .val (.double (4602837345879530353 : UInt64)), .second, vi 3]) X6.here hx (hb hby d24) rfl (by first | rfl | decide) rfl ?_
    refine t_goto (pc := 41) 5 X6.here hx (hb hby d25) (by decide) (by decide) ?_
    refine t_iload 7 X6.here hx (hb hby d4) rfl rfl ?_
    refine st7 _ ?_
    refine own_arlen (pc' := 11) X7 hx hZ e7 V_st_SIZES (hb hby d6) rfl ?_
    refine t_iconst 12 (r := 1) X7.here hx (hb hby d7) (by decide) rfl ?_
    refine t_isub 13 (r := 7) X7.here hx (hb hby d8) (by decide : ((8 : Int32) - (1 : Int32)) = (7 : Int32)) rfl ?_
    refine t_icmpNo 16 X7.here hx (hb hby d9) (by decide) rfl ?_
    refine t_dloadN 17 X7.here hx (hb hby d10) rfl rfl ?_
    refine st8 _ ?_
    refine t_iload 22 X8.here hx (hb hby d12) rfl rfl ?_
    refine own_aldD (pc' := 23) X8 hx hZ e8 V_st_SHARES (j := 3) (v := (.double (4593080747646794911 : UInt64))) (by decide) rfl (hb hby d13) rfl ?_
    refine t_dadd 24 (r := (4603889386752484101 : UInt64)) X8.here hx (hb hby d14) (by unfold Jvm.Free.Fl.NoNaN64; decide +kernel) (by decide +kernel) rfl ?_
    refine t_dstoreN (pc' := 25) (L' := #[.val (.double x0), .second, .val (.double (4603889386752484101 : UInt64)), .second, vi 3]) X8.here hx (hb hby d15) rfl rfl ?_
    refine t_dloadN 26 X8.here hx (hb hby d16) rfl rfl ?_
    refine t_dloadN 27 X8.here hx (hb hby d17) rfl rfl ?_
    refine t_dcmp 28 (r := (cmpValue (FP.dcmp x0 (4603889386752484101 : UInt64)) .g)) X8.here hx (hb hby d18) rfl rfl ?_
    refine t_ifNo 31 X8.here hx (hb hby d19) ((if0 _ _).trans (tlt hp3).2.1) rfl ?_
    refine st9 _ ?_
    refine t_iload 36 X9.here hx (hb hby d21) rfl rfl ?_
    refine own_aldI (pc' := 37) X9 hx hZ e9 V_st_SIZES (j := 3) (v := (.int 8)) (by decide) rfl (hb hby d22) rfl ?_
    exact retI X9 hx hret (hb hby d23) hr
def Q_r_procs4 (Z : State) (st_SIZES st_SHARES : Addr) (x0 : UInt64) (k_st_SIZES k_st_SHARES : ClassId) (h0 : Heap) (n0 : Nat) (v : Option Value) (h : Heap) (L : List Loc) : Prop := v = some (.int 16) ∧ Fr n0 L ∧ h = h0
theorem ef_r_procs4 (x0 : UInt64) (m : MethodId) : entryFrame m #[(.double x0)] 5 = mkF m 0 #[.val (.double x0), .second, .unset, .unset, .unset] [] := by first | (simp [entryFrame, mkF, argsToLocals, Value.category]; done) | rfl
set_option maxRecDepth 65536 in
set_option maxHeartbeats 40000000 in
theorem r_procs4 (l : Launch) (Z : State) (a0 : Array Value) (hw : HW Z a0) (ws : List Jvm.Cond) (st_SIZES st_SHARES : Addr) (x0 : UInt64) (k_st_SIZES k_st_SHARES : ClassId) (h0 : Heap) (n0 : Nat) (Z0 : n0 ≤ h0.size) (S_SIZES : Sta Z Z.heap "com/example/bourse/bourse/workload/Model" "SIZES" "[I" (.ref st_SIZES)) (O0 : Old Z n0 h0) (V_st_SIZES : Arv Z h0 st_SIZES k_st_SIZES .int 8 [(.int 1), (.int 2), (.int 4), (.int 8), (.int 16), (.int 32), (.int 64), (.int 128)] z0) (S_SHARES : Sta Z Z.heap "com/example/bourse/bourse/workload/Model" "SHARES" "[D" (.ref st_SHARES)) (V_st_SHARES : Arv Z h0 st_SHARES k_st_SHARES .double 8 [(.double (4598557124793677434 : UInt64)), (.double (4591942237660995650 : UInt64)), (.double (4594406607377092785 : UInt64)), (.double (4593080747646794911 : UInt64)), (.double (4592172821961917019 : UInt64)), (.double (4595552323122295839 : UInt64)), (.double (4589578748576551613 : UInt64)), (.double (4580268907426851324 : UInt64))] (.double (FP.l2d (0 : Int64)))) (hp0 : ¬ ((cmpValue (FP.dcmp x0 (4598557124793677434 : UInt64)) .g) < (0 : Int32))) (hp1 : ¬ ((cmpValue (FP.dcmp x0 (4600376579043135114 : UInt64)) .g) < (0 : Int32))) (hp2 : ¬ ((cmpValue (FP.dcmp x0 (4602837345879530353 : UInt64)) .g) < (0 : Int32))) (hp3 : ¬ ((cmpValue (FP.dcmp x0 (4603889386752484101 : UInt64)) .g) < (0 : Int32))) (hp4 : (cmpValue (FP.dcmp x0 (4604827936914828112 : UInt64)) .g) < (0 : Int32)) :
    MF l Z y0_procs b0_ 5 (some .int) ws ⟨0, 0, 0, 0⟩ #[(.double x0)] h0 (Q_r_procs4 Z st_SIZES st_SHARES x0 k_st_SIZES k_st_SHARES h0 n0) := by
  refine own_body (plainFor_of_name pn_Model987) (ef_r_procs4 x0) (by decide) (by decide) ?_
  intro p e s m below meth c s₁ hx hby hml hown hnm hret hZ hh e0 X0
  have N0 := Fr.nil n0
  obtain ⟨T1, X1, e1, st1⟩ := getS2 X0 hx hZ hown (host := "") (Or.inl (w7 hw)) Via.refl e0 (Sta.ext O0.2 S_SIZES) (g := (mkF m 7 #[.val (.double x0), .second, .val (.double (FP.l2d (0 : Int64))), .second, vi 0] [z0])) rfl (hb hby d5)
  obtain ⟨T2, X2, e2, st2⟩ := getS2 X1 hx hZ hown (host := "") (Or.inl (w9 hw)) Via.refl e1 (Sta.ext O0.2 S_SHARES) (g := (mkF m 17 #[.val (.double x0), .second, .val (.double (FP.l2d (0 : Int64))), .second, vi 0] [(.double (FP.l2d (0 : Int64)))])) rfl (hb hby d11)
  obtain ⟨T3, X3, e3, st3⟩ := getS2 X2 hx hZ hown (host := "") (Or.inl (w7 hw)) Via.refl e2 (Sta.ext O0.2 S_SIZES) (g := (mkF m 7 #[.val (.double x0), .second, .val (.double (4598557124793677434 : UInt64)), .second, vi 1] [(.int 1)])) rfl (hb hby d5)
  obtain ⟨T4, X4, e4, st4⟩ := getS2 X3 hx hZ hown (host := "") (Or.inl (w9 hw)) Via.refl e3 (Sta.ext O0.2 S_SHARES) (g := (mkF m 17 #[.val (.double x0), .second, .val (.double (4598557124793677434 : UInt64)), .second, vi 1] [(.double (4598557124793677434 : UInt64))])) rfl (hb hby d11)
  obtain ⟨T5, X5, e5, st5⟩ := getS2 X4 hx hZ hown (host := "") (Or.inl (w7 hw)) Via.refl e4 (Sta.ext O0.2 S_SIZES) (g := (mkF m 7 #[.val (.double x0), .second, .val (.double (4600376579043135114 : UInt64)), .second, vi 2] [(.int 2)])) rfl (hb hby d5)
  obtain ⟨T6, X6, e6, st6⟩ := getS2 X5 hx hZ hown (host := "") (Or.inl (w9 hw)) Via.refl e5 (Sta.ext O0.2 S_SHARES) (g := (mkF m 17 #[.val (.double x0), .second, .val (.double (4600376579043135114 : UInt64)), .second, vi 2] [(.double (4600376579043135114 : UInt64))])) rfl (hb hby d11)
  obtain ⟨T7, X7, e7, st7⟩ := getS2 X6 hx hZ hown (host := "") (Or.inl (w7 hw)) Via.refl e6 (Sta.ext O0.2 S_SIZES) (g := (mkF m 7 #[.val (.double x0), .second, .val (.double (4602837345879530353 : UInt64)), .second, vi 3] [(.int 3)])) rfl (hb hby d5)
  obtain ⟨T8, X8, e8, st8⟩ := getS2 X7 hx hZ hown (host := "") (Or.inl (w9 hw)) Via.refl e7 (Sta.ext O0.2 S_SHARES) (g := (mkF m 17 #[.val (.double x0), .second, .val (.double (4602837345879530353 : UInt64)), .second, vi 3] [(.double (4602837345879530353 : UInt64))])) rfl (hb hby d11)
  obtain ⟨T9, X9, e9, st9⟩ := getS2 X8 hx hZ hown (host := "") (Or.inl (w7 hw)) Via.refl e8 (Sta.ext O0.2 S_SIZES) (g := (mkF m 7 #[.val (.double x0), .second, .val (.double (4603889386752484101 : UInt64)), .second, vi 4] [(.int 4)])) rfl (hb hby d5)
  obtain ⟨T10, X10, e10, st10⟩ := getS2 X9 hx hZ hown (host := "") (Or.inl (w9 hw)) Via.refl e9 (Sta.ext O0.2 S_SHARES) (g := (mkF m 17 #[.val (.double x0), .second, .val (.double (4603889386752484101 : UInt64)), .second, vi 4] [(.double (4603889386752484101 : UInt64))])) rfl (hb hby d11)
  obtain ⟨T11, X11, e11, st11⟩ := getS2 X10 hx hZ hown (host := "") (Or.inl (w7 hw)) Via.refl e10 (Sta.ext O0.2 S_SIZES) (g := (mkF m 31 #[.val (.double x0), .second, .val (.double (4604827936914828112 : UInt64)), .second, vi 4] [])) rfl (hb hby d20)
  refine ⟨T11, _, some (.int 16), X11, (fun h => by cases h <;> rfl), ?_, fun fs hr => ?_⟩
  · show Q_r_procs4 Z st_SIZES st_SHARES x0 k_st_SIZES k_st_SHARES h0 n0 _ T11.heap _
    rw [e11]
    exact ⟨rfl, N0, rfl⟩
  · refine t_dconst0 1 (r := (FP.l2d (0 : Int64))) X0.here hx (hb hby d0) own_dconst0 rfl ?_
    refine t_dstoreN (pc' := 2) (L' := #[.val (.double x0), .second, .val (.double (FP.l2d (0 : Int64))), .second, .unset]) X0.here hx (hb hby d1) rfl rfl ?_
    refine t_iconst 3 (r := 0) X0.here hx (hb hby d2) (by decide) rfl ?_
    refine t_istore (pc' := 5) (L' := #[.val (.double x0), .second, .val (.double (FP.l2d (0 : Int64))), .second, vi 0]) X0.here hx (hb hby d3) rfl rfl ?_
    refine t_iload 7 X0.here hx (hb hby d4) rfl rfl ?_
    refine st1 _ ?_
    refine own_arlen (pc' := 11) X1 hx hZ e1 V_st_SIZES (hb hby d6) rfl ?_
    refine t_iconst 12 (r := 1) X1.here hx (hb hby d7) (by decide) rfl ?_
    refine t_isub 13 (r := 7) X1.here hx (hb hby d8) (by decide : ((8 : Int32) - (1 : Int32)) = (7 : Int32)) rfl ?_
    refine t_icmpNo 16 X1.here hx (hb hby d9) (by decide) rfl ?_
    refine t_dloadN 17 X1.here hx (hb hby d10) rfl rfl ?_
    refine st2 _ ?_
    refine t_iload 22 X2.here hx (hb hby d12) rfl rfl ?_
    refine own_aldD (pc' := 23) X2 hx hZ e2 V_st_SHARES (j := 0) (v := (.double (4598557124793677434 : UInt64))) (by decide) rfl (hb hby d13) rfl ?_
    refine t_dadd 24 (r := (4598557124793677434 : UInt64)) X2.here hx (hb hby d14) (by unfold Jvm.Free.Fl.NoNaN64; decide +kernel) (by decide +kernel) rfl ?_
    refine t_dstoreN (pc' := 25) (L' := #[.val (.double x0), .second, .val (.double (4598557124793677434 : UInt64)), .second, vi 0]) X2.here hx (hb hby d15) rfl rfl ?_
    refine t_dloadN 26 X2.here hx (hb hby d16) rfl rfl ?_
    refine t_dloadN 27 X2.here hx (hb hby d17) rfl rfl ?_
    refine t_dcmp 28 (r := (cmpValue (FP.dcmp x0 (4598557124793677434 : UInt64)) .g)) X2.here hx (hb hby d18) rfl rfl ?_
    refine t_ifYes (pc := 28) 38 X2.here hx (hb hby d19) ((if0 _ _).trans (flt hp0).2.1) (by decide) (by decide) ?_
    refine t_iinc (pc' := 41) (L' := #[.val (.double x0), .second, .val (.double (4598557124793677434 : UInt64)), .second, vi 1]) X2.here hx (hb hby d24) rfl (by first | rfl | decide) rfl ?_
    refine t_goto (pc := 41) 5 X2.here hx (hb hby d25) (by decide) (by decide) ?_
    refine t_iload 7 X2.here hx (hb hby d4) rfl rfl ?_
    refine st3 _ ?_
    refine own_arlen (pc' := 11) X3 hx hZ e3 V_st_SIZES (hb hby d6) rfl ?_
    refine t_iconst 12 (r := 1) X3.here hx (hb hby d7) (by decide) rfl ?_
    refine t_isub 13 (r := 7) X3.here hx (hb hby d8) (by decide : ((8 : Int32) - (1 : Int32)) = (7 : Int32)) rfl ?_
    refine t_icmpNo 16 X3.here hx (hb hby d9) (by decide) rfl ?_
    refine t_dloadN 17 X3.here hx (hb hby d10) rfl rfl ?_
    refine st4 _ ?_
    refine t_iload 22 X4.here hx (hb hby d12) rfl rfl ?_
    refine own_aldD (pc' := 23) X4 hx hZ e4 V_st_SHARES (j := 1) (v := (.double (4591942237660995650 : UInt64))) (by decide) rfl (hb hby d13) rfl ?_
    refine t_dadd 24 (r := (4600376579043135114 : UInt64)) X4.here hx (hb hby d14) (by unfold Jvm.Free.Fl.NoNaN64; decide +kernel) (by decide +kernel) rfl ?_
    refine t_dstoreN (pc' := 25) (L' := #[.val (.double x0), .second, .val (.double (4600376579043135114 : UInt64)), .second, vi 1]) X4.here hx (hb hby d15) rfl rfl ?_
    refine t_dloadN 26 X4.here hx (hb hby d16) rfl rfl ?_
    refine t_dloadN 27 X4.here hx (hb hby d17) rfl rfl ?_
    refine t_dcmp 28 (r := (cmpValue (FP.dcmp x0 (4600376579043135114 : UInt64)) .g)) X4.here hx (hb hby d18) rfl rfl ?_
    refine t_ifYes (pc := 28) 38 X4.here hx (hb hby d19) ((if0 _ _).trans (flt hp1).2.1) (by decide) (by decide) ?_
    refine t_iinc (pc' := 41) (L' := #[.val (.double x0), .second, .val (.double (4600376579043135114 : UInt64)), .second, vi 2]) X4.here hx (hb hby d24) rfl (by first | rfl | decide) rfl ?_
    refine t_goto (pc := 41) 5 X4.here hx (hb hby d25) (by decide) (by decide) ?_
    refine t_iload 7 X4.here hx (hb hby d4) rfl rfl ?_
    refine st5 _ ?_
    refine own_arlen (pc' := 11) X5 hx hZ e5 V_st_SIZES (hb hby d6) rfl ?_
    refine t_iconst 12 (r := 1) X5.here hx (hb hby d7) (by decide) rfl ?_
    refine t_isub 13 (r := 7) X5.here hx (hb hby d8) (by decide : ((8 : Int32) - (1 : Int32)) = (7 : Int32)) rfl ?_
    refine t_icmpNo 16 X5.here hx (hb hby d9) (by decide) rfl ?_
    refine t_dloadN 17 X5.here hx (hb hby d10) rfl rfl ?_
    refine st6 _ ?_
    refine t_iload 22 X6.here hx (hb hby d12) rfl rfl ?_
    refine own_aldD (pc' := 23) X6 hx hZ e6 V_st_SHARES (j := 2) (v := (.double (4594406607377092785 : UInt64))) (by decide) rfl (hb hby d13) rfl ?_
    refine t_dadd 24 (r := (4602837345879530353 : UInt64)) X6.here hx (hb hby d14) (by unfold Jvm.Free.Fl.NoNaN64; decide +kernel) (by decide +kernel) rfl ?_
    refine t_dstoreN (pc' := 25) (L' := #[.val (.double x0), .second, .val (.double (4602837345879530353 : UInt64)), .second, vi 2]) X6.here hx (hb hby d15) rfl rfl ?_
    refine t_dloadN 26 X6.here hx (hb hby d16) rfl rfl ?_
    refine t_dloadN 27 X6.here hx (hb hby d17) rfl rfl ?_
    refine t_dcmp 28 (r := (cmpValue (FP.dcmp x0 (4602837345879530353 : UInt64)) .g)) X6.here hx (hb hby d18) rfl rfl ?_
    refine t_ifYes (pc := 28) 38 X6.here hx (hb hby d19) ((if0 _ _).trans (flt hp2).2.1) (by decide) (by decide) ?_
    refine t_iinc (pc' := 41) (L' := #[.val (.double x0), .second, .val (.double (4602837345879530353 : UInt64)), .second, vi 3]) X6.here hx (hb hby d24) rfl (by first | rfl | decide) rfl ?_
    refine t_goto (pc := 41) 5 X6.here hx (hb hby d25) (by decide) (by decide) ?_
    refine t_iload 7 X6.here hx (hb hby d4) rfl rfl ?_
    refine st7 _ ?_
    refine own_arlen (pc' := 11) X7 hx hZ e7 V_st_SIZES (hb hby d6) rfl ?_
    refine t_iconst 12 (r := 1) X7.here hx (hb hby d7) (by decide) rfl ?_
    refine t_isub 13 (r := 7) X7.here hx (hb hby d8) (by decide : ((8 : Int32) - (1 : Int32)) = (7 : Int32)) rfl ?_
    refine t_icmpNo 16 X7.here hx (hb hby d9) (by decide) rfl ?_
    refine t_dloadN 17 X7.here hx (hb hby d10) rfl rfl ?_
    refine st8 _ ?_
    refine t_iload 22 X8.here hx (hb hby d12) rfl rfl ?_
    refine own_aldD (pc' := 23) X8 hx hZ e8 V_st_SHARES (j := 3) (v := (.double (4593080747646794911 : UInt64))) (by decide) rfl (hb hby d13) rfl ?_
    refine t_dadd 24 (r := (4603889386752484101 : UInt64)) X8.here hx (hb hby d14) (by unfold Jvm.Free.Fl.NoNaN64; decide +kernel) (by decide +kernel) rfl ?_
    refine t_dstoreN (pc' := 25) (L' := #[.val (.double x0), .second, .val (.double (4603889386752484101 : UInt64)), .second, vi 3]) X8.here hx (hb hby d15) rfl rfl ?_
    refine t_dloadN 26 X8.here hx (hb hby d16) rfl rfl ?_
    refine t_dloadN 27 X8.here hx (hb hby d17) rfl rfl ?_
    refine t_dcmp 28 (r := (cmpValue (FP.dcmp x0 (4603889386752484101 : UInt64)) .g)) X8.here hx (hb hby d18) rfl rfl ?_
    refine t_ifYes (pc := 28) 38 X8.here hx (hb hby d19) ((if0 _ _).trans (flt hp3).2.1) (by decide) (by decide) ?_
    refine t_iinc (pc' := 41) (L' := #[.val (.double x0), .second, .val (.double (4603889386752484101 : UInt64)), .second, vi 4]) X8.here hx (hb hby d24) rfl (by first | rfl | decide) rfl ?_
    refine t_goto (pc := 41) 5 X8.here hx (hb hby d25) (by decide) (by decide) ?_
    refine t_iload 7 X8.here hx (hb hby d4) rfl rfl ?_
    refine st9 _ ?_
    refine own_arlen (pc' := 11) X9 hx hZ e9 V_st_SIZES (hb hby d6) rfl ?_
    refine t_iconst 12 (r := 1) X9.here hx (hb hby d7) (by decide) rfl ?_
    refine t_isub 13 (r := 7) X9.here hx (hb hby d8) (by decide : ((8 : Int32) - (1 : Int32)) = (7 : Int32)) rfl ?_
    refine t_icmpNo 16 X9.here hx (hb hby d9) (by decide) rfl ?_
    refine t_dloadN 17 X9.here hx (hb hby d10) rfl rfl ?_
    refine st10 _ ?_
    refine t_iload 22 X10.here hx (hb hby d12) rfl rfl ?_
    refine own_aldD (pc' := 23) X10 hx hZ e10 V_st_SHARES (j := 4) (v := (.double (4592172821961917019 : UInt64))) (by decide) rfl (hb hby d13) rfl ?_
    refine t_dadd 24 (r := (4604827936914828112 : UInt64)) X10.here hx (hb hby d14) (by unfold Jvm.Free.Fl.NoNaN64; decide +kernel) (by decide +kernel) rfl ?_
    refine t_dstoreN (pc' := 25) (L' := #[.val (.double x0), .second, .val (.double (4604827936914828112 : UInt64)), .second, vi 4]) X10.here hx (hb hby d15) rfl rfl ?_
    refine t_dloadN 26 X10.here hx (hb hby d16) rfl rfl ?_
    refine t_dloadN 27 X10.here hx (hb hby d17) rfl rfl ?_
    refine t_dcmp 28 (r := (cmpValue (FP.dcmp x0 (4604827936914828112 : UInt64)) .g)) X10.here hx (hb hby d18) rfl rfl ?_
    refine t_ifNo 31 X10.here hx (hb hby d19) ((if0 _ _).trans (tlt hp4).2.1) rfl ?_
    refine st11 _ ?_
    refine t_iload 36 X11.here hx (hb hby d21) rfl rfl ?_
    refine own_aldI (pc' := 37) X11 hx hZ e11 V_st_SIZES (j := 4) (v := (.int 16)) (by decide) rfl (hb hby d22) rfl ?_
    exact retI X11 hx hret (hb hby d23) hr
def Q_r_procs5 (Z : State) (st_SIZES st_SHARES : Addr) (x0 : UInt64) (k_st_SIZES k_st_SHARES : ClassId) (h0 : Heap) (n0 : Nat) (v : Option Value) (h : Heap) (L : List Loc) : Prop := v = some (.int 32) ∧ Fr n0 L ∧ h = h0
theorem ef_r_procs5 (x0 : UInt64) (m : MethodId) : entryFrame m #[(.double x0)] 5 = mkF m 0 #[.val (.double x0), .second, .unset, .unset, .unset] [] := by first | (simp [entryFrame, mkF, argsToLocals, Value.category]; done) | rfl
set_option maxRecDepth 65536 in
set_option maxHeartbeats 40000000 in
theorem r_procs5 (l : Launch) (Z : State) (a0 : Array Value) (hw : HW Z a0) (ws : List Jvm.Cond) (st_SIZES st_SHARES : Addr) (x0 : UInt64) (k_st_SIZES k_st_SHARES : ClassId) (h0 : Heap) (n0 : Nat) (Z0 : n0 ≤ h0.size) (S_SIZES : Sta Z Z.heap "com/example/bourse/bourse/workload/Model" "SIZES" "[I" (.ref st_SIZES)) (O0 : Old Z n0 h0) (V_st_SIZES : Arv Z h0 st_SIZES k_st_SIZES .int 8 [(.int 1), (.int 2), (.int 4), (.int 8), (.int 16), (.int 32), (.int 64), (.int 128)] z0) (S_SHARES : Sta Z Z.heap "com/example/bourse/bourse/workload/Model" "SHARES" "[D" (.ref st_SHARES)) (V_st_SHARES : Arv Z h0 st_SHARES k_st_SHARES .double 8 [(.double (4598557124793677434 : UInt64)), (.double (4591942237660995650 : UInt64)), (.double (4594406607377092785 : UInt64)), (.double (4593080747646794911 : UInt64)), (.double (4592172821961917019 : UInt64)), (.double (4595552323122295839 : UInt64)), (.double (4589578748576551613 : UInt64)), (.double (4580268907426851324 : UInt64))] (.double (FP.l2d (0 : Int64)))) (hp0 : ¬ ((cmpValue (FP.dcmp x0 (4598557124793677434 : UInt64)) .g) < (0 : Int32))) (hp1 : ¬ ((cmpValue (FP.dcmp x0 (4600376579043135114 : UInt64)) .g) < (0 : Int32))) (hp2 : ¬ ((cmpValue (FP.dcmp x0 (4602837345879530353 : UInt64)) .g) < (0 : Int32))) (hp3 : ¬ ((cmpValue (FP.dcmp x0 (4603889386752484101 : UInt64)) .g) < (0 : Int32))) (hp4 : ¬ ((cmpValue (FP.dcmp x0 (4604827936914828112 : UInt64)) .g) < (0 : Int32))) (hp5 : (cmpValue (FP.dcmp x0 (4606424012622768216 : UInt64)) .g) < (0 : Int32)) :
    MF l Z y0_procs b0_ 5 (some .int) ws ⟨0, 0, 0, 0⟩ #[(.double x0)] h0 (Q_r_procs5 Z st_SIZES st_SHARES x0 k_st_SIZES k_st_SHARES h0 n0) := by
  refine own_body (plainFor_of_name pn_Model987) (ef_r_procs5 x0) (by decide) (by decide) ?_
  intro p e s m below meth c s₁ hx hby hml hown hnm hret hZ hh e0 X0
  have N0 := Fr.nil n0
  obtain ⟨T1, X1, e1, st1⟩ := getS2 X0 hx hZ hown (host := "") (Or.inl (w7 hw)) Via.refl e0 (Sta.ext O0.2 S_SIZES) (g := (mkF m 7 #[.val (.double x0), .second, .val (.double (FP.l2d (0 : Int64))), .second, vi 0] [z0])) rfl (hb hby d5)
  obtain ⟨T2, X2, e2, st2⟩ := getS2 X1 hx hZ hown (host := "") (Or.inl (w9 hw)) Via.refl e1 (Sta.ext O0.2 S_SHARES) (g := (mkF m 17 #[.val (.double x0), .second, .val (.double (FP.l2d (0 : Int64))), .second, vi 0] [(.double (FP.l2d (0 : Int64)))])) rfl (hb hby d11)
  obtain ⟨T3, X3, e3, st3⟩ := getS2 X2 hx hZ hown (host := "") (Or.inl (w7 hw)) Via.refl e2 (Sta.ext O0.2 S_SIZES) (g := (mkF m 7 #[.val (.double x0), .second, .val (.double (4598557124793677434 : UInt64)), .second, vi 1] [(.int 1)])) rfl (hb hby d5)
  obtain ⟨T4, X4, e4, st4⟩ := getS2 X3 hx hZ hown (host := "") (Or.inl (w9 hw)) Via.refl e3 (Sta.ext O0.2 S_SHARES) (g := (mkF m 17 #[.val (.double x0), .second, .val (.double (4598557124793677434 : UInt64)), .second, vi 1] [(.double (4598557124793677434 : UInt64))])) rfl (hb hby d11)
  obtain ⟨T5, X5, e5, st5⟩ := getS2 X4 hx hZ hown (host := "") (Or.inl (w7 hw)) Via.refl e4 (Sta.ext O0.2 S_SIZES) (g := (mkF m 7 #[.val (.double x0), .second, .val (.double (4600376579043135114 : UInt64)), .second, vi 2] [(.int 2)])) rfl (hb hby d5)
  obtain ⟨T6, X6, e6, st6⟩ := getS2 X5 hx hZ hown (host := "") (Or.inl (w9 hw)) Via.refl e5 (Sta.ext O0.2 S_SHARES) (g := (mkF m 17 #[.val (.double x0), .second, .val (.double (4600376579043135114 : UInt64)), .second, vi 2] [(.double (4600376579043135114 : UInt64))])) rfl (hb hby d11)
  obtain ⟨T7, X7, e7, st7⟩ := getS2 X6 hx hZ hown (host := "") (Or.inl (w7 hw)) Via.refl e6 (Sta.ext O0.2 S_SIZES) (g := (mkF m 7 #[.val (.double x0), .second, .val (.double (4602837345879530353 : UInt64)), .second, vi 3] [(.int 3)])) rfl (hb hby d5)
  obtain ⟨T8, X8, e8, st8⟩ := getS2 X7 hx hZ hown (host := "") (Or.inl (w9 hw)) Via.refl e7 (Sta.ext O0.2 S_SHARES) (g := (mkF m 17 #[.val (.double x0), .second, .val (.double (4602837345879530353 : UInt64)), .second, vi 3] [(.double (4602837345879530353 : UInt64))])) rfl (hb hby d11)
  obtain ⟨T9, X9, e9, st9⟩ := getS2 X8 hx hZ hown (host := "") (Or.inl (w7 hw)) Via.refl e8 (Sta.ext O0.2 S_SIZES) (g := (mkF m 7 #[.val (.double x0), .second, .val (.double (4603889386752484101 : UInt64)), .second, vi 4] [(.int 4)])) rfl (hb hby d5)
  obtain ⟨T10, X10, e10, st10⟩ := getS2 X9 hx hZ hown (host := "") (Or.inl (w9 hw)) Via.refl e9 (Sta.ext O0.2 S_SHARES) (g := (mkF m 17 #[.val (.double x0), .second, .val (.double (4603889386752484101 : UInt64)), .second, vi 4] [(.double (4603889386752484101 : UInt64))])) rfl (hb hby d11)
  obtain ⟨T11, X11, e11, st11⟩ := getS2 X10 hx hZ hown (host := "") (Or.inl (w7 hw)) Via.refl e10 (Sta.ext O0.2 S_SIZES) (g := (mkF m 7 #[.val (.double x0), .second, .val (.double (4604827936914828112 : UInt64)), .second, vi 5] [(.int 5)])) rfl (hb hby d5)
  obtain ⟨T12, X12, e12, st12⟩ := getS2 X11 hx hZ hown (host := "") (Or.inl (w9 hw)) Via.refl e11 (Sta.ext O0.2 S_SHARES) (g := (mkF m 17 #[.val (.double x0), .second, .val (.double (4604827936914828112 : UInt64)), .second, vi 5] [(.double (4604827936914828112 : UInt64))])) rfl (hb hby d11)
  obtain ⟨T13, X13, e13, st13⟩ := getS2 X12 hx hZ hown (host := "") (Or.inl (w7 hw)) Via.refl e12 (Sta.ext O0.2 S_SIZES) (g := (mkF m 31 #[.val (.double x0), .second, .val (.double (4606424012622768216 : UInt64)), .second, vi 5] [])) rfl (hb hby d20)
  refine ⟨T13, _, some (.int 32), X13, (fun h => by cases h <;> rfl), ?_, fun fs hr => ?_⟩
  · show Q_r_procs5 Z st_SIZES st_SHARES x0 k_st_SIZES k_st_SHARES h0 n0 _ T13.heap _
    rw [e13]
    exact ⟨rfl, N0, rfl⟩
  · refine t_dconst0 1 (r := (FP.l2d (0 : Int64))) X0.here hx (hb hby d0) own_dconst0 rfl ?_
    refine t_dstoreN (pc' := 2) (L' := #[.val (.double x0), .second, .val (.double (FP.l2d (0 : Int64))), .second, .unset]) X0.here hx (hb hby d1) rfl rfl ?_
    refine t_iconst 3 (r := 0) X0.here hx (hb hby d2) (by decide) rfl ?_
    refine t_istore (pc' := 5) (L' := #[.val (.double x0), .second, .val (.double (FP.l2d (0 : Int64))), .second, vi 0]) X0.here hx (hb hby d3) rfl rfl ?_
    refine t_iload 7 X0.here hx (hb hby d4) rfl rfl ?_
    refine st1 _ ?_
    refine own_arlen (pc' := 11) X1 hx hZ e1 V_st_SIZES (hb hby d6) rfl ?_
    refine t_iconst 12 (r := 1) X1.here hx (hb hby d7) (by decide) rfl ?_
    refine t_isub 13 (r := 7) X1.here hx (hb hby d8) (by decide : ((8 : Int32) - (1 : Int32)) = (7 : Int32)) rfl ?_
    refine t_icmpNo 16 X1.here hx (hb hby d9) (by decide) rfl ?_
    refine t_dloadN 17 X1.here hx (hb hby d10) rfl rfl ?_
    refine st2 _ ?_
    refine t_iload 22 X2.here hx (hb hby d12) rfl rfl ?_
    refine own_aldD (pc' := 23) X2 hx hZ e2 V_st_SHARES (j := 0) (v := (.double (4598557124793677434 : UInt64))) (by decide) rfl (hb hby d13) rfl ?_
    refine t_dadd 24 (r := (4598557124793677434 : UInt64)) X2.here hx (hb hby d14) (by unfold Jvm.Free.Fl.NoNaN64; decide +kernel) (by decide +kernel) rfl ?_
    refine t_dstoreN (pc' := 25) (L' := #[.val (.double x0), .second, .val (.double (4598557124793677434 : UInt64)), .second, vi 0]) X2.here hx (hb hby d15) rfl rfl ?_
    refine t_dloadN 26 X2.here hx (hb hby d16) rfl rfl ?_
    refine t_dloadN 27 X2.here hx (hb hby d17) rfl rfl ?_
    refine t_dcmp 28 (r := (cmpValue (FP.dcmp x0 (4598557124793677434 : UInt64)) .g)) X2.here hx (hb hby d18) rfl rfl ?_
    refine t_ifYes (pc := 28) 38 X2.here hx (hb hby d19) ((if0 _ _).trans (flt hp0).2.1) (by decide) (by decide) ?_
    refine t_iinc (pc' := 41) (L' := #[.val (.double x0), .second, .val (.double (4598557124793677434 : UInt64)), .second, vi 1]) X2.here hx (hb hby d24) rfl (by first | rfl | decide) rfl ?_
    refine t_goto (pc := 41) 5 X2.here hx (hb hby d25) (by decide) (by decide) ?_
    refine t_iload 7 X2.here hx (hb hby d4) rfl rfl ?_
    refine st3 _ ?_
    refine own_arlen (pc' := 11) X3 hx hZ e3 V_st_SIZES (hb hby d6) rfl ?_
    refine t_iconst 12 (r := 1) X3.here hx (hb hby d7) (by decide) rfl ?_
    refine t_isub 13 (r := 7) X3.here hx (hb hby d8) (by decide : ((8 : Int32) - (1 : Int32)) = (7 : Int32)) rfl ?_
    refine t_icmpNo 16 X3.here hx (hb hby d9) (by decide) rfl ?_
    refine t_dloadN 17 X3.here hx (hb hby d10) rfl rfl ?_
    refine st4 _ ?_
    refine t_iload 22 X4.here hx (hb hby d12) rfl rfl ?_
    refine own_aldD (pc' := 23) X4 hx hZ e4 V_st_SHARES (j := 1) (v := (.double (4591942237660995650 : UInt64))) (by decide) rfl (hb hby d13) rfl ?_
    refine t_dadd 24 (r := (4600376579043135114 : UInt64)) X4.here hx (hb hby d14) (by unfold Jvm.Free.Fl.NoNaN64; decide +kernel) (by decide +kernel) rfl ?_
    refine t_dstoreN (pc' := 25) (L' := #[.val (.double x0), .second, .val (.double (4600376579043135114 : UInt64)), .second, vi 1]) X4.here hx (hb hby d15) rfl rfl ?_
    refine t_dloadN 26 X4.here hx (hb hby d16) rfl rfl ?_
    refine t_dloadN 27 X4.here hx (hb hby d17) rfl rfl ?_
    refine t_dcmp 28 (r := (cmpValue (FP.dcmp x0 (4600376579043135114 : UInt64)) .g)) X4.here hx (hb hby d18) rfl rfl ?_
    refine t_ifYes (pc := 28) 38 X4.here hx (hb hby d19) ((if0 _ _).trans (flt hp1).2.1) (by decide) (by decide) ?_
    refine t_iinc (pc' := 41) (L' := #[.val (.double x0), .second, .val (.double (4600376579043135114 : UInt64)), .second, vi 2]) X4.here hx (hb hby d24) rfl (by first | rfl | decide) rfl ?_
    refine t_goto (pc := 41) 5 X4.here hx (hb hby d25) (by decide) (by decide) ?_
    refine t_iload 7 X4.here hx (hb hby d4) rfl rfl ?_
    refine st5 _ ?_
    refine own_arlen (pc' := 11) X5 hx hZ e5 V_st_SIZES (hb hby d6) rfl ?_
    refine t_iconst 12 (r := 1) X5.here hx (hb hby d7) (by decide) rfl ?_
    refine t_isub 13 (r := 7) X5.here hx (hb hby d8) (by decide : ((8 : Int32) - (1 : Int32)) = (7 : Int32)) rfl ?_
    refine t_icmpNo 16 X5.here hx (hb hby d9) (by decide) rfl ?_
    refine t_dloadN 17 X5.here hx (hb hby d10) rfl rfl ?_
    refine st6 _ ?_
    refine t_iload 22 X6.here hx (hb hby d12) rfl rfl ?_
    refine own_aldD (pc' := 23) X6 hx hZ e6 V_st_SHARES (j := 2) (v := (.double (4594406607377092785 : UInt64))) (by decide) rfl (hb hby d13) rfl ?_
    refine t_dadd 24 (r := (4602837345879530353 : UInt64)) X6.here hx (hb hby d14) (by unfold Jvm.Free.Fl.NoNaN64; decide +kernel) (by decide +kernel) rfl ?_
    refine t_dstoreN (pc' := 25) (L' := #[.val (.double x0), .second, .val (.double (4602837345879530353 : UInt64)), .second, vi 2]) X6.here hx (hb hby d15) rfl rfl ?_
    refine t_dloadN 26 X6.here hx (hb hby d16) rfl rfl ?_
    refine t_dloadN 27 X6.here hx (hb hby d17) rfl rfl ?_
    refine t_dcmp 28 (r := (cmpValue (FP.dcmp x0 (4602837345879530353 : UInt64)) .g)) X6.here hx (hb hby d18) rfl rfl ?_
    refine t_ifYes (pc := 28) 38 X6.here hx (hb hby d19) ((if0 _ _).trans (flt hp2).2.1) (by decide) (by decide) ?_
    refine t_iinc (pc' := 41) (L' := #[.val (.double x0), .second, .val (.double (4602837345879530353 : UInt64)), .second, vi 3]) X6.here hx (hb hby d24) rfl (by first | rfl | decide) rfl ?_
    refine t_goto (pc := 41) 5 X6.here hx (hb hby d25) (by decide) (by decide) ?_
    refine t_iload 7 X6.here hx (hb hby d4) rfl rfl ?_
    refine st7 _ ?_
    refine own_arlen (pc' := 11) X7 hx hZ e7 V_st_SIZES (hb hby d6) rfl ?_
    refine t_iconst 12 (r := 1) X7.here hx (hb hby d7) (by decide) rfl ?_
    refine t_isub 13 (r := 7) X7.here hx (hb hby d8) (by decide : ((8 : Int32) - (1 : Int32)) = (7 : Int32)) rfl ?_
    refine t_icmpNo 16 X7.here hx (hb hby d9) (by decide) rfl ?_
    refine t_dloadN 17 X7.here hx (hb hby d10) rfl rfl ?_
    refine st8 _ ?_
    refine t_iload 22 X8.here hx (hb hby d12) rfl rfl ?_
    refine own_aldD (pc' := 23) X8 hx hZ e8 V_st_SHARES (j := 3) (v := (.double (4593080747646794911 : UInt64))) (by decide) rfl (hb hby d13) rfl ?_
    refine t_dadd 24 (r := (4603889386752484101 : UInt64)) X8.here hx (hb hby d14) (by unfold Jvm.Free.Fl.NoNaN64; decide +kernel) (by decide +kernel) rfl ?_
    refine t_dstoreN (pc' := 25) (L' := #[.val (.double x0), .second, .val (.double (4603889386752484101 : UInt64)), .second, vi 3]) X8.here hx (hb hby d15) rfl rfl ?_
    refine t_dloadN 26 X8.here hx (hb hby d16) rfl rfl ?_
    refine t_dloadN 27 X8.here hx (hb hby d17) rfl rfl ?_
    refine t_dcmp 28 (r := (cmpValue (FP.dcmp x0 (4603889386752484101 : UInt64)) .g)) X8.here hx (hb hby d18) rfl rfl ?_
    refine t_ifYes (pc := 28) 38 X8.here hx (hb hby d19) ((if0 _ _).trans (flt hp3).2.1) (by decide) (by decide) ?_
    refine t_iinc (pc' := 41) (L' := #[.val (.double x0), .second, .val (.double (4603889386752484101 : UInt64)), .second, vi 4]) X8.here hx (hb hby d24) rfl (by first | rfl | decide) rfl ?_
    refine t_goto (pc := 41) 5 X8.here hx (hb hby d25) (by decide) (by decide) ?_
    refine t_iload 7 X8.here hx (hb hby d4) rfl rfl ?_
    refine st9 _ ?_
    refine own_arlen (pc' := 11) X9 hx hZ e9 V_st_SIZES (hb hby d6) rfl ?_
    refine t_iconst 12 (r := 1) X9.here hx (hb hby d7) (by decide) rfl ?_
    refine t_isub 13 (r := 7) X9.here hx (hb hby d8) (by decide : ((8 : Int32) - (1 : Int32)) = (7 : Int32)) rfl ?_
    refine t_icmpNo 16 X9.here hx (hb hby d9) (by decide) rfl ?_
    refine t_dloadN 17 X9.here hx (hb hby d10) rfl rfl ?_
    refine st10 _ ?_
    refine t_iload 22 X10.here hx (hb hby d12) rfl rfl ?_
    refine own_aldD (pc' := 23) X10 hx hZ e10 V_st_SHARES (j := 4) (v := (.double (4592172821961917019 : UInt64))) (by decide) rfl (hb hby d13) rfl ?_
    refine t_dadd 24 (r := (4604827936914828112 : UInt64)) X10.here hx (hb hby d14) (by unfold Jvm.Free.Fl.NoNaN64; decide +kernel) (by decide +kernel) rfl ?_
    refine t_dstoreN (pc' := 25) (L' := #[.val (.double x0), .second, .val (.double (4604827936914828112 : UInt64)), .second, vi 4]) X10.here hx (hb hby d15) rfl rfl ?_
    refine t_dloadN 26 X10.here hx (hb hby d16) rfl rfl ?_
    refine t_dloadN 27 X10.here hx (hb hby d17) rfl rfl ?_
    refine t_dcmp 28 (r := (cmpValue (FP.dcmp x0 (4604827936914828112 : UInt64)) .g)) X10.here hx (hb hby d18) rfl rfl ?_
    refine t_ifYes (pc := 28) 38 X10.here hx (hb hby d19) ((if0 _ _).trans (flt hp4).2.1) (by decide) (by decide) ?_
    refine t_iinc (pc' := 41) (L' := #[.val (.double x0), .second, .val (.double (4604827936914828112 : UInt64)), .second, vi 5]) X10.here hx (hb hby d24) rfl (by first | rfl | decide) rfl ?_
    refine t_goto (pc := 41) 5 X10.here hx (hb hby d25) (by decide) (by decide) ?_
    refine t_iload 7 X10.here hx (hb hby d4) rfl rfl ?_
    refine st11 _ ?_
    refine own_arlen (pc' := 11) X11 hx hZ e11 V_st_SIZES (hb hby d6) rfl ?_
    refine t_iconst 12 (r := 1) X11.here hx (hb hby d7) (by decide) rfl ?_
    refine t_isub 13 (r := 7) X11.here hx (hb hby d8) (by decide : ((8 : Int32) - (1 : Int32)) = (7 : Int32)) rfl ?_
    refine t_icmpNo 16 X11.here hx (hb hby d9) (by decide) rfl ?_
    refine t_dloadN 17 X11.here hx (hb hby d10) rfl rfl ?_
    refine st12 _ ?_
    refine t_iload 22 X12.here hx (hb hby d12) rfl rfl ?_
    refine own_aldD (pc' := 23) X12 hx hZ e12 V_st_SHARES (j := 5) (v := (.double (4595552323122295839 : UInt64))) (by decide) rfl (hb hby d13) rfl ?_
    refine t_dadd 24 (r := (4606424012622768216 : UInt64)) X12.here hx (hb hby d14) (by unfold Jvm.Free.Fl.NoNaN64; decide +kernel) (by decide +kernel) rfl ?_
    refine t_dstoreN (pc' := 25) (L' := #[.val (.double x0), .second, .val (.double (4606424012622768216 : UInt64)), .second, vi 5]) X12.here hx (hb hby d15) rfl rfl ?_
    refine t_dloadN 26 X12.here hx (hb hby d16) rfl rfl ?_
    refine t_dloadN 27 X12.here hx (hb hby d17) rfl rfl ?_
    refine t_dcmp 28 (r := (cmpValue (FP.dcmp x0 (4606424012622768216 : UInt64)) .g)) X12.here hx (hb hby d18) rfl rfl ?_
    refine t_ifNo 31 X12.here hx (hb hby d19) ((if0 _ _).trans (tlt hp5).2.1) rfl ?_
    refine st13 _ ?_
    refine t_iload 36 X13.here hx (hb hby d21) rfl rfl ?_
    refine own_aldI (pc' := 37) X13 hx hZ e13 V_st_SIZES (j := 5) (v := (.int 32)) (by decide) rfl (hb hby d22) rfl ?_
    exact retI X13 hx hret (hb hby d23) hr
def Q_r_procs6 (Z : State) (st_SIZES st_SHARES : Addr) (x0 : UInt64) (k_st_SIZES k_st_SHARES : ClassId) (h0 : Heap) (n0 : Nat) (v : Option Value) (h : Heap) (L : List Loc) : Prop := v = some (.int 64) ∧ Fr n0 L ∧ h = h0
theorem ef_r_procs6 (x0 : UInt64) (m : MethodId) : entryFrame m #[(.double x0)] 5 = mkF m 0 #[.val (.double x0), .second, .unset, .unset, .unset] [] := by first | (simp [entryFrame, mkF, argsToLocals, Value.category]; done) | rfl
set_option maxRecDepth 65536 in
set_option maxHeartbeats 40000000 in
theorem r_procs6 (l : Launch) (Z : State) (a0 : Array Value) (hw : HW Z a0) (ws : List Jvm.Cond) (st_SIZES st_SHARES : Addr) (x0 : UInt64) (k_st_SIZES k_st_SHARES : ClassId) (h0 : Heap) (n0 : Nat) (Z0 : n0 ≤ h0.size) (S_SIZES : Sta Z Z.heap "com/example/bourse/bourse/workload/Model" "SIZES" "[I" (.ref st_SIZES)) (O0 : Old Z n0 h0) (V_st_SIZES : Arv Z h0 st_SIZES k_st_SIZES .int 8 [(.int 1), (.int 2), (.int 4), (.int 8), (.int 16), (.int 32), (.int 64), (.int 128)] z0) (S_SHARES : Sta Z Z.heap "com/example/bourse/bourse/workload/Model" "SHARES" "[D" (.ref st_SHARES)) (V_st_SHARES : Arv Z h0 st_SHARES k_st_SHARES .double 8 [(.double (4598557124793677434 : UInt64)), (.double (4591942237660995650 : UInt64)), (.double (4594406607377092785 : UInt64)), (.double (4593080747646794911 : UInt64)), (.double (4592172821961917019 : UInt64)), (.double (4595552323122295839 : UInt64)), (.double (4589578748576551613 : UInt64)), (.double (4580268907426851324 : UInt64))] (.double (FP.l2d (0 : Int64)))) (hp0 : ¬ ((cmpValue (FP.dcmp x0 (4598557124793677434 : UInt64)) .g) < (0 : Int32))) (hp1 : ¬ ((cmpValue (FP.dcmp x0 (4600376579043135114 : UInt64)) .g) < (0 : Int32))) (hp2 : ¬ ((cmpValue (FP.dcmp x0 (4602837345879530353 : UInt64)) .g) < (0 : Int32))) (hp3 : ¬ ((cmpValue (FP.dcmp x0 (4603889386752484101 : UInt64)) .g) < (0 : Int32))) (hp4 : ¬ ((cmpValue (FP.dcmp x0 (4604827936914828112 : UInt64)) .g) < (0 : Int32))) (hp5 : ¬ ((cmpValue (FP.dcmp x0 (4606424012622768216 : UInt64)) .g) < (0 : Int32))) (hp6 : (cmpValue (FP.dcmp x0 (4607038303611941552 : UInt64)) .g) < (0 : Int32)) :
    MF l Z y0_procs b0_ 5 (some .int) ws ⟨0, 0, 0, 0⟩ #[(.double x0)] h0 (Q_r_procs6 Z st_SIZES st_SHARES x0 k_st_SIZES k_st_SHARES h0 n0) := by
  refine own_body (plainFor_of_name pn_Model987) (ef_r_procs6 x0) (by decide) (by decide) ?_
  intro p e s m below meth c s₁ hx hby hml hown hnm hret hZ hh e0 X0
  have N0 := Fr.nil n0
  obtain ⟨T1, X1, e1, st1⟩ := getS2 X0 hx hZ hown (host := "") (Or.inl (w7 hw)) Via.refl e0 (Sta.ext O0.2 S_SIZES) (g := (mkF m 7 #[.val (.double x0), .second, .val (.double (FP.l2d (0 : Int64))), .second, vi 0] [z0])) rfl (hb hby d5)
  obtain ⟨T2, X2, e2, st2⟩ := getS2 X1 hx hZ hown (host := "") (Or.inl (w9 hw)) Via.refl e1 (Sta.ext O0.2 S_SHARES) (g := (mkF m 17 #[.val (.double x0), .second, .val (.double (FP.l2d (0 : Int64))), .second, vi 0] [(.double (FP.l2d (0 : Int64)))])) rfl (hb hby d11)
  obtain ⟨T3, X3, e3, st3⟩ := getS2 X2 hx hZ hown (host := "") (Or.inl (w7 hw)) Via.refl e2 (Sta.ext O0.2 S_SIZES) (g := (mkF m 7 #[.val (.double x0), .second, .val (.double (4598557124793677434 : UInt64)), .second, vi 1] [(.int 1)])) rfl (hb hby d5)
  obtain ⟨T4, X4, e4, st4⟩ := getS2 X3 hx hZ hown (host := "") (Or.inl (w9 hw)) Via.refl e3 (Sta.ext O0.2 S_SHARES) (g := (mkF m 17 #[.val (.double x0), .second, .val (.double (4598557124793677434 : UInt64)), .second, vi 1] [(.double (4598557124793677434 : UInt64))])) rfl (hb hby d11)
  obtain ⟨T5, X5, e5, st5⟩ := getS2 X4 hx hZ hown (host := "") (Or.inl (w7 hw)) Via.refl e4 (Sta.ext O0.2 S_SIZES) (g := (mkF m 7 #[.val (.double x0), .second, .val (.double (4600376579043135114 : UInt64)), .second, vi 2] [(.int 2)])) rfl (hb hby d5)
  obtain ⟨T6, X6, e6, st6⟩ := getS2 X5 hx hZ hown (host := "") (Or.inl (w9 hw)) Via.refl e5 (Sta.ext O0.2 S_SHARES) (g := (mkF m 17 #[.val (.double x0), .second, .val (.double (4600376579043135114 : UInt64)), .second, vi 2] [(.double (4600376579043135114 : UInt64))])) rfl (hb hby d11)
  obtain ⟨T7, X7, e7, st7⟩ := getS2 X6 hx hZ hown (host := "") (Or.inl (w7 hw)) Via.refl e6 (Sta.ext O0.2 S_SIZES) (g := (mkF m 7 #[.val (.double x0), .second, .val (.double (4602837345879530353 : UInt64)), .second, vi 3] [(.int 3)])) rfl (hb hby d5)
  obtain ⟨T8, X8, e8, st8⟩ := getS2 X7 hx hZ hown (host := "") (Or.inl (w9 hw)) Via.refl e7 (Sta.ext O0.2 S_SHARES) (g := (mkF m 17 #[.val (.double x0), .second, .val (.double (4602837345879530353 : UInt64)), .second, vi 3] [(.double (4602837345879530353 : UInt64))])) rfl (hb hby d11)
  obtain ⟨T9, X9, e9, st9⟩ := getS2 X8 hx hZ hown (host := "") (Or.inl (w7 hw)) Via.refl e8 (Sta.ext O0.2 S_SIZES) (g := (mkF m 7 #[.val (.double x0), .second, .val (.double (4603889386752484101 : UInt64)), .second, vi 4] [(.int 4)])) rfl (hb hby d5)
  obtain ⟨T10, X10, e10, st10⟩ := getS2 X9 hx hZ hown (host := "") (Or.inl (w9 hw)) Via.refl e9 (Sta.ext O0.2 S_SHARES) (g := (mkF m 17 #[.val (.double x0), .second, .val (.double (4603889386752484101 : UInt64)), .second, vi 4] [(.double (4603889386752484101 : UInt64))])) rfl (hb hby d11)
  obtain ⟨T11, X11, e11, st11⟩ := getS2 X10 hx hZ hown (host := "") (Or.inl (w7 hw)) Via.refl e10 (Sta.ext O0.2 S_SIZES) (g := (mkF m 7 #[.val (.double x0), .second, .val (.double (4604827936914828112 : UInt64)), .second, vi 5] [(.int 5)])) rfl (hb hby d5)
  obtain ⟨T12, X12, e12, st12⟩ := getS2 X11 hx hZ hown (host := "") (Or.inl (w9 hw)) Via.refl e11 (Sta.ext O0.2 S_SHARES) (g := (mkF m 17 #[.val (.double x0), .second, .val (.double (4604827936914828112 : UInt64)), .second, vi 5] [(.double (4604827936914828112 : UInt64))])) rfl (hb hby d11)
  obtain ⟨T13, X13, e13, st13⟩ := getS2 X12 hx hZ hown (host := "") (Or.inl (w7 hw)) Via.refl e12 (Sta.ext O0.2 S_SIZES) (g := (mkF m 7 #[.val (.double x0), .second, .val (.double (4606424012622768216 : UInt64)), .second, vi 6] [(.int 6)])) rfl (hb hby d5)
  obtain ⟨T14, X14, e14, st14⟩ := getS2 X13 hx hZ hown (host := "") (Or.inl (w9 hw)) Via.refl e13 (Sta.ext O0.2 S_SHARES) (g := (mkF m 17 #[.val (.double x0), .second, .val (.double (4606424012622768216 : UInt64)), .second, vi 6] [(.double (4606424012622768216 : UInt64))])) rfl (hb hby d11)
  obtain ⟨T15, X15, e15, st15⟩ := getS2 X14 hx hZ hown (host := "") (Or.inl (w7 hw)) Via.refl e14 (Sta.ext O0.2 S_SIZES) (g := (mkF m 31 #[.val (.double x0), .second, .val (.double (4607038303611941552 : UInt64)), .second, vi 6] [])) rfl (hb hby d20)
  refine ⟨T15, _, some (.int 64), X15, (fun h => by cases h <;> rfl), ?_, fun fs hr => ?_⟩
  · show Q_r_procs6 Z st_SIZES st_SHARES x0 k_st_SIZES k_st_SHARES h0 n0 _ T15.heap _
    rw [e15]
    exact ⟨rfl, N0, rfl⟩
  · refine t_dconst0 1 (r := (FP.l2d (0 : Int64))) X0.here hx (hb hby d0) own_dconst0 rfl ?_
    refine t_dstoreN (pc' := 2) (L' := #[.val (.double x0), .second, .val (.double (FP.l2d (0 : Int64))), .second, .unset]) X0.here hx (hb hby d1) rfl rfl ?_
    refine t_iconst 3 (r := 0) X0.here hx (hb hby d2) (by decide) rfl ?_
    refine t_istore (pc' := 5) (L' := #[.val (.double x0), .second, .val (.double (FP.l2d (0 : Int64))), .second, vi 0]) X0.here hx (hb hby d3) rfl rfl ?_
    refine t_iload 7 X0.here hx (hb hby d4) rfl rfl ?_
    refine st1 _ ?_
    refine own_arlen (pc' := 11) X1 hx hZ e1 V_st_SIZES (hb hby d6) rfl ?_
    refine t_iconst 12 (r := 1) X1.here hx (hb hby d7) (by decide) rfl ?_
    refine t_isub 13 (r := 7) X1.here hx (hb hby d8) (by decide : ((8 : Int32) - (1 : Int32)) = (7 : Int32)) rfl ?_
    refine t_icmpNo 16 X1.here hx (hb hby d9) (by decide) rfl ?_
    refine t_dloadN 17 X1.here hx (hb hby d10) rfl rfl ?_
    refine st2 _ ?_
    refine t_iload 22 X2.here hx (hb hby d12) rfl rfl ?_
    refine own_aldD (pc' := 23) X2 hx hZ e2 V_st_SHARES (j := 0) (v := (.double (4598557124793677434 : UInt64))) (by decide) rfl (hb hby d13) rfl ?_
    refine t_dadd 24 (r := (4598557124793677434 : UInt64)) X2.here hx (hb hby d14) (by unfold Jvm.Free.Fl.NoNaN64; decide +kernel) (by decide +kernel) rfl ?_
    refine t_dstoreN (pc' := 25) (L' := #[.val (.double x0), .second, .val (.double (4598557124793677434 : UInt64)), .second, vi 0]) X2.here hx (hb hby d15) rfl rfl ?_
    refine t_dloadN 26 X2.here hx (hb hby d16) rfl rfl ?_
    refine t_dloadN 27 X2.here hx (hb hby d17) rfl rfl ?_
    refine t_dcmp 28 (r := (cmpValue (FP.dcmp x0 (4598557124793677434 : UInt64)) .g)) X2.here hx (hb hby d18) rfl rfl ?_
    refine t_ifYes (pc := 28) 38 X2.here hx (hb hby d19) ((if0 _ _).trans (flt hp0).2.1) (by decide) (by decide) ?_
    refine t_iinc (pc' := 41) (L' := #[.val (.double x0), .second, .val (.double (4598557124793677434 : UInt64)), .second, vi 1]) X2.here hx (hb hby d24) rfl (by first | rfl | decide) rfl ?_
    refine t_goto (pc := 41) 5 X2.here hx (hb hby d25) (by decide) (by decide) ?_
    refine t_iload 7 X2.here hx (hb hby d4) rfl rfl ?_
    refine st3 _ ?_
    refine own_arlen (pc' := 11) X3 hx hZ e3 V_st_SIZES (hb hby d6) rfl ?_
    refine t_iconst 12 (r := 1) X3.here hx (hb hby d7) (by decide) rfl ?_
    refine t_isub 13 (r := 7) X3.here hx (hb hby d8) (by decide : ((8 : Int32) - (1 : Int32)) = (7 : Int32)) rfl ?_
    refine t_icmpNo 16 X3.here hx (hb hby d9) (by decide) rfl ?_
    refine t_dloadN 17 X3.here hx (hb hby d10) rfl rfl ?_
    refine st4 _ ?_
    refine t_iload 22 X4.here hx (hb hby d12) rfl rfl ?_
    refine own_aldD (pc' := 23) X4 hx hZ e4 V_st_SHARES (j := 1) (v := (.double (4591942237660995650 : UInt64))) (by decide) rfl (hb hby d13) rfl ?_
    refine t_dadd 24 (r := (4600376579043135114 : UInt64)) X4.here hx (hb hby d14) (by unfold Jvm.Free.Fl.NoNaN64; decide +kernel) (by decide +kernel) rfl ?_
    refine t_dstoreN (pc' := 25) (L' := #[.val (.double x0), .second, .val (.double (4600376579043135114 : UInt64)), .second, vi 1]) X4.here hx (hb hby d15) rfl rfl ?_
    refine t_dloadN 26 X4.here hx (hb hby d16) rfl rfl ?_
    refine t_dloadN 27 X4.here hx (hb hby d17) rfl rfl ?_
    refine t_dcmp 28 (r := (cmpValue (FP.dcmp x0 (4600376579043135114 : UInt64)) .g)) X4.here hx (hb hby d18) rfl rfl ?_
    refine t_ifYes (pc := 28) 38 X4.here hx (hb hby d19) ((if0 _ _).trans (flt hp1).2.1) (by decide) (by decide) ?_
    refine t_iinc (pc' := 41) (L' := #[.val (.double x0), .second, .val (.double (4600376579043135114 : UInt64)), .second, vi 2]) X4.here hx (hb hby d24) rfl (by first | rfl | decide) rfl ?_
    refine t_goto (pc := 41) 5 X4.here hx (hb hby d25) (by decide) (by decide) ?_
    refine t_iload 7 X4.here hx (hb hby d4) rfl rfl ?_
    refine st5 _ ?_
    refine own_arlen (pc' := 11) X5 hx hZ e5 V_st_SIZES (hb hby d6) rfl ?_
    refine t_iconst 12 (r := 1) X5.here hx (hb hby d7) (by decide) rfl ?_
    refine t_isub 13 (r := 7) X5.here hx (hb hby d8) (by decide : ((8 : Int32) - (1 : Int32)) = (7 : Int32)) rfl ?_
    refine t_icmpNo 16 X5.here hx (hb hby d9) (by decide) rfl ?_
    refine t_dloadN 17 X5.here hx (hb hby d10) rfl rfl ?_
    refine st6 _ ?_
    refine t_iload 22 X6.here hx (hb hby d12) rfl rfl ?_
    refine own_aldD (pc' := 23) X6 hx hZ e6 V_st_SHARES (j := 2) (v := (.double (4594406607377092785 : UInt64))) (by decide) rfl (hb hby d13) rfl ?_
    refine t_dadd 24 (r := (4602837345879530353 : UInt64)) X6.here hx (hb hby d14) (by unfold Jvm.Free.Fl.NoNaN64; decide +kernel) (by decide +kernel) rfl ?_
    refine t_dstoreN (pc' := 25) (L' := #[.val (.double x0), .second, .val (.double (4602837345879530353 : UInt64)), .second, vi 2]) X6.here hx (hb hby d15) rfl rfl ?_
    refine t_dloadN 26 X6.here hx (hb hby d16) rfl rfl ?_
    refine t_dloadN 27 X6.here hx (hb hby d17) rfl rfl ?_
    refine t_dcmp 28 (r := (cmpValue (FP.dcmp x0 (4602837345879530353 : UInt64)) .g)) X6.here hx (hb hby d18) rfl rfl ?_
    refine t_ifYes (pc := 28) 38 X6.here hx (hb hby d19) ((if0 _ _).trans (flt hp2).2.1) (by decide) (by decide) ?_
    refine t_iinc (pc' := 41) (L' := #[.val (.double x0), .second, .val (.double (4602837345879530353 : UInt64)), .second, vi 3]) X6.here hx (hb hby d24) rfl (by first | rfl | decide) rfl ?_
    refine t_goto (pc := 41) 5 X6.here hx (hb hby d25) (by decide) (by decide) ?_
    refine t_iload 7 X6.here hx (hb hby d4) rfl rfl ?_
    refine st7 _ ?_
    refine own_arlen (pc' := 11) X7 hx hZ e7 V_st_SIZES (hb hby d6) rfl ?_
    refine t_iconst 12 (r := 1) X7.here hx (hb hby d7) (by decide) rfl ?_
    refine t_isub 13 (r := 7) X7.here hx (hb hby d8) (by decide : ((8 : Int32) - (1 : Int32)) = (7 : Int32)) rfl ?_
    refine t_icmpNo 16 X7.here hx (hb hby d9) (by decide) rfl ?_
    refine t_dloadN 17 X7.here hx (hb hby d10) rfl rfl ?_
    refine st8 _ ?_
    refine t_iload 22 X8.here hx (hb hby d12) rfl rfl ?_
    refine own_aldD (pc' := 23) X8 hx hZ e8 V_st_SHARES (j := 3) (v := (.double (4593080747646794911 : UInt64))) (by decide) rfl (hb hby d13) rfl ?_
    refine t_dadd 24 (r := (4603889386752484101 : UInt64)) X8.here hx (hb hby d14) (by unfold Jvm.Free.Fl.NoNaN64; decide +kernel) (by decide +kernel) rfl ?_
    refine t_dstoreN (pc' := 25) (L' := #[.val (.double x0), .second, .val (.double (4603889386752484101 : UInt64)), .second, vi 3]) X8.here hx (hb hby d15) rfl rfl ?_
    refine t_dloadN 26 X8.here hx (hb hby d16) rfl rfl ?_
    refine t_dloadN 27 X8.here hx (hb hby d17) rfl rfl ?_
    refine t_dcmp 28 (r := (cmpValue (FP.dcmp x0 (4603889386752484101 : UInt64)) .g)) X8.here hx (hb hby d18) rfl rfl ?_
    refine t_ifYes (pc := 28) 38 X8.here hx (hb hby d19) ((if0 _ _).trans (flt hp3).2.1) (by decide) (by decide) ?_
    refine t_iinc (pc' := 41) (L' := #[.val (.double x0), .second, .val (.double (4603889386752484101 : UInt64)), .second, vi 4]) X8.here hx (hb hby d24) rfl (by first | rfl | decide) rfl ?_
    refine t_goto (pc := 41) 5 X8.here hx (hb hby d25) (by decide) (by decide) ?_
    refine t_iload 7 X8.here hx (hb hby d4) rfl rfl ?_
    refine st9 _ ?_
    refine own_arlen (pc' := 11) X9 hx hZ e9 V_st_SIZES (hb hby d6) rfl ?_
    refine t_iconst 12 (r := 1) X9.here hx (hb hby d7) (by decide) rfl ?_
    refine t_isub 13 (r := 7) X9.here hx (hb hby d8) (by decide : ((8 : Int32) - (1 : Int32)) = (7 : Int32)) rfl ?_
    refine t_icmpNo 16 X9.here hx (hb hby d9) (by decide) rfl ?_
    refine t_dloadN 17 X9.here hx (hb hby d10) rfl rfl ?_
    refine st10 _ ?_
    refine t_iload 22 X10.here hx (hb hby d12) rfl rfl ?_
    refine own_aldD (pc' := 23) X10 hx hZ e10 V_st_SHARES (j := 4) (v := (.double (4592172821961917019 : UInt64))) (by decide) rfl (hb hby d13) rfl ?_
    refine t_dadd 24 (r := (4604827936914828112 : UInt64)) X10.here hx (hb hby d14) (by unfold Jvm.Free.Fl.NoNaN64; decide +kernel) (by decide +kernel) rfl ?_
    refine t_dstoreN (pc' := 25) (L' := #[.val (.double x0), .second, .val (.double (4604827936914828112 : UInt64)), .second, vi 4]) X10.here hx (hb hby d15) rfl rfl ?_
    refine t_dloadN 26 X10.here hx (hb hby d16) rfl rfl ?_
    refine t_dloadN 27 X10.here hx (hb hby d17) rfl rfl ?_
    refine t_dcmp 28 (r := (cmpValue (FP.dcmp x0 (4604827936914828112 : UInt64)) .g)) X10.here hx (hb hby d18) rfl rfl ?_
    refine t_ifYes (pc := 28) 38 X10.here hx (hb hby d19) ((if0 _ _).trans (flt hp4).2.1) (by decide) (by decide) ?_
    refine t_iinc (pc' := 41) (L' := #[.val (.double x0), .second, .val (.double (4604827936914828112 : UInt64)), .second, vi 5]) X10.here hx (hb hby d24) rfl (by first | rfl | decide) rfl ?_
    refine t_goto (pc := 41) 5 X10.here hx (hb hby d25) (by decide) (by decide) ?_
    refine t_iload 7 X10.here hx (hb hby d4) rfl rfl ?_
    refine st11 _ ?_
    refine own_arlen (pc' := 11) X11 hx hZ e11 V_st_SIZES (hb hby d6) rfl ?_
    refine t_iconst 12 (r := 1) X11.here hx (hb hby d7) (by decide) rfl ?_
    refine t_isub 13 (r := 7) X11.here hx (hb hby d8) (by decide : ((8 : Int32) - (1 : Int32)) = (7 : Int32)) rfl ?_
    refine t_icmpNo 16 X11.here hx (hb hby d9) (by decide) rfl ?_
    refine t_dloadN 17 X11.here hx (hb hby d10) rfl rfl ?_
    refine st12 _ ?_
    refine t_iload 22 X12.here hx (hb hby d12) rfl rfl ?_
    refine own_aldD (pc' := 23) X12 hx hZ e12 V_st_SHARES (j := 5) (v := (.double (4595552323122295839 : UInt64))) (by decide) rfl (hb hby d13) rfl ?_
    refine t_dadd 24 (r := (4606424012622768216 : UInt64)) X12.here hx (hb hby d14) (by unfold Jvm.Free.Fl.NoNaN64; decide +kernel) (by decide +kernel) rfl ?_
    refine t_dstoreN (pc' := 25) (L' := #[.val (.double x0), .second, .val (.double (4606424012622768216 : UInt64)), .second, vi 5]) X12.here hx (hb hby d15) rfl rfl ?_
    refine t_dloadN 26 X12.here hx (hb hby d16) rfl rfl ?_
    refine t_dloadN 27 X12.here hx (hb hby d17) rfl rfl ?_
    refine t_dcmp 28 (r := (cmpValue (FP.dcmp x0 (4606424012622768216 : UInt64)) .g)) X12.here hx (hb hby d18) rfl rfl ?_
    refine t_ifYes (pc := 28) 38 X12.here hx (hb hby d19) ((if0 _ _).trans (flt hp5).2.1) (by decide) (by decide) ?_
    refine t_iinc (pc' := 41) (L' := #[.val (.double x0), .second, .val (.double (4606424012622768216 : UInt64)), .second, vi 6]) X12.here hx (hb hby d24) rfl (by first | rfl | decide) rfl ?_
    refine t_goto (pc := 41) 5 X12.here hx (hb hby d25) (by decide) (by decide) ?_
    refine t_iload 7 X12.here hx (hb hby d4) rfl rfl ?_
    refine st13 _ ?_
    refine own_arlen (pc' := 11) X13 hx hZ e13 V_st_SIZES (hb hby d6) rfl ?_
    refine t_iconst 12 (r := 1) X13.here hx (hb hby d7) (by decide) rfl ?_
    refine t_isub 13 (r := 7) X13.here hx (hb hby d8) (by decide : ((8 : Int32) - (1 : Int32)) = (7 : Int32)) rfl ?_
    refine t_icmpNo 16 X13.here hx (hb hby d9) (by decide) rfl ?_
    refine t_dloadN 17 X13.here hx (hb hby d10) rfl rfl ?_
    refine st14 _ ?_
    refine t_iload 22 X14.here hx (hb hby d12) rfl rfl ?_
    refine own_aldD (pc' := 23) X14 hx hZ e14 V_st_SHARES (j := 6) (v := (.double (4589578748576551613 : UInt64))) (by decide) rfl (hb hby d13) rfl ?_
    refine t_dadd 24 (r := (4607038303611941552 : UInt64)) X14.here hx (hb hby d14) (by unfold Jvm.Free.Fl.NoNaN64; decide +kernel) (by decide +kernel) rfl ?_
    refine t_dstoreN (pc' := 25) (L' := #[.val (.double x0), .second, .val (.double (4607038303611941552 : UInt64)), .second, vi 6]) X14.here hx (hb hby d15) rfl rfl ?_
    refine t_dloadN 26 X14.here hx (hb hby d16) rfl rfl ?_
    refine t_dloadN 27 X14.here hx (hb hby d17) rfl rfl ?_
    refine t_dcmp 28 (r := (cmpValue (FP.dcmp x0 (4607038303611941552 : UInt64)) .g)) X14.here hx (hb hby d18) rfl rfl ?_
    refine t_ifNo 31 X14.here hx (hb hby d19) ((if0 _ _).trans (tlt hp6).2.1) rfl ?_
    refine st15 _ ?_
    refine t_iload 36 X15.here hx (hb hby d21) rfl rfl ?_
    refine own_aldI (pc' := 37) X15 hx hZ e15 V_st_SIZES (j := 6) (v := (.int 64)) (by decide) rfl (hb hby d22) rfl ?_
    exact retI X15 hx hret (hb hby d23) hr
theorem d26 : decode b0_ 44 = .ok (.getstatic 39, 3) := by decide +kernel
theorem d27 : decode b0_ 47 = .ok (.getstatic 39, 3) := by decide +kernel
theorem d28 : decode b0_ 50 = .ok (.arraylength, 1) := by decide +kernel
theorem d29 : decode b0_ 51 = .ok (.iconst 1, 1) := by decide +kernel
theorem d30 : decode b0_ 52 = .ok (.isub, 1) := by decide +kernel
theorem d31 : decode b0_ 53 = .ok (.iaload, 1) := by decide +kernel
theorem d32 : decode b0_ 54 = .ok (.ireturn, 1) := by decide +kernel
def Q_r_procs7 (Z : State) (st_SIZES st_SHARES : Addr) (x0 : UInt64) (k_st_SIZES k_st_SHARES : ClassId) (h0 : Heap) (n0 : Nat) (v : Option Value) (h : Heap) (L : List Loc) : Prop := v = some (.int 128) ∧ Fr n0 L ∧ h = h0
theorem ef_r_procs7 (x0 : UInt64) (m : MethodId) : entryFrame m #[(.double x0)] 5 = mkF m 0 #[.val (.double x0), .second, .unset, .unset, .unset] [] := by first | (simp [entryFrame, mkF, argsToLocals, Value.category]; done) | rfl
set_option maxRecDepth 65536 in
set_option maxHeartbeats 40000000 in
theorem r_procs7 (l : Launch) (Z : State) (a0 : Array Value) (hw : HW Z a0) (ws : List Jvm.Cond) (st_SIZES st_SHARES : Addr) (x0 : UInt64) (k_st_SIZES k_st_SHARES : ClassId) (h0 : Heap) (n0 : Nat) (Z0 : n0 ≤ h0.size) (S_SIZES : Sta Z Z.heap "com/example/bourse/bourse/workload/Model" "SIZES" "[I" (.ref st_SIZES)) (O0 : Old Z n0 h0) (V_st_SIZES : Arv Z h0 st_SIZES k_st_SIZES .int 8 [(.int 1), (.int 2), (.int 4), (.int 8), (.int 16), (.int 32), (.int 64), (.int 128)] z0) (S_SHARES : Sta Z Z.heap "com/example/bourse/bourse/workload/Model" "SHARES" "[D" (.ref st_SHARES)) (V_st_SHARES : Arv Z h0 st_SHARES k_st_SHARES .double 8 [(.double (4598557124793677434 : UInt64)), (.double (4591942237660995650 : UInt64)), (.double (4594406607377092785 : UInt64)), (.double (4593080747646794911 : UInt64)), (.double (4592172821961917019 : UInt64)), (.double (4595552323122295839 : UInt64)), (.double (4589578748576551613 : UInt64)), (.double (4580268907426851324 : UInt64))] (.double (FP.l2d (0 : Int64)))) (hp0 : ¬ ((cmpValue (FP.dcmp x0 (4598557124793677434 : UInt64)) .g) < (0 : Int32))) (hp1 : ¬ ((cmpValue (FP.dcmp x0 (4600376579043135114 : UInt64)) .g) < (0 : Int32))) (hp2 : ¬ ((cmpValue (FP.dcmp x0 (4602837345879530353 : UInt64)) .g) < (0 : Int32))) (hp3 : ¬ ((cmpValue (FP.dcmp x0 (4603889386752484101 : UInt64)) .g) < (0 : Int32))) (hp4 : ¬ ((cmpValue (FP.dcmp x0 (4604827936914828112 : UInt64)) .g) < (0 : Int32))) (hp5 : ¬ ((cmpValue (FP.dcmp x0 (4606424012622768216 : UInt64)) .g) < (0 : Int32))) (hp6 : ¬ ((cmpValue (FP.dcmp x0 (4607038303611941552 : UInt64)) .g) < (0 : Int32))) :
    MF l Z y0_procs b0_ 5 (some .int) ws ⟨0, 0, 0, 0⟩ #[(.double x0)] h0 (Q_r_procs7 Z st_SIZES st_SHARES x0 k_st_SIZES k_st_SHARES h0 n0) := by
  refine own_body (plainFor_of_name pn_Model987) (ef_r_procs7 x0) (by decide) (by decide) ?_
  intro p e s m below meth c s₁ hx hby hml hown hnm hret hZ hh e0 X0
  have N0 := Fr.nil n0
  obtain ⟨T1, X1, e1, st1⟩ := getS2 X0 hx hZ hown (host := "") (Or.inl (w7 hw)) Via.refl e0 (Sta.ext O0.2 S_SIZES) (g := (mkF m 7 #[.val (.double x0), .second, .val (.double (FP.l2d (0 : Int64))), .second, vi 0] [z0])) rfl (hb hby d5)
  obtain ⟨T2, X2, e2, st2⟩ := getS2 X1 hx hZ hown (host := "") (Or.inl (w9 hw)) Via.refl e1 (Sta.ext O0.2 S_SHARES) (g := (mkF m 17 #[.val (.double x0), .second, .val (.double (FP.l2d (0 : Int64))), .second, vi 0] [(.double (FP.l2d (0 : Int64)))])) rfl (hb hby d11)
  obtain ⟨T3, X3, e3, st3⟩ := getS2 X2 hx hZ hown (host := "") (Or.inl (w7 hw)) Via.refl e2 (Sta.ext O0.2 S_SIZES) (g := (mkF m 7 #[.val (.double x0), .second, .val (.double (4598557124793677434 : UInt64)), .second, vi 1] [(.int 1)])) rfl (hb hby d5)
  obtain ⟨T4, X4, e4, st4⟩ := getS2 X3 hx hZ hown (host := "") (Or.inl (w9 hw)) Via.refl e3 (Sta.ext O0.2 S_SHARES) (g := (mkF m 17 #[.val (.double x0), .second, .val (.double (4598557124793677434 : UInt64)), .second, vi 1] [(.double (4598557124793677434 : UInt64))])) rfl (hb hby d11)
  obtain ⟨T5, X5, e5, st5⟩ := getS2 X4 hx hZ hown (host := "") (Or.inl (w7 hw)) Via.refl e4 (Sta.ext O0.2 S_SIZES) (g := (mkF m 7 #[.val (.double x0), .second, .val (.double (4600376579043135114 : UInt64)), .second, vi 2] [(.int 2)])) rfl (hb hby d5)
  obtain ⟨T6, X6, e6, st6⟩ := getS2 X5 hx hZ hown (host := "") (Or.inl (w9 hw)) Via.refl e5 (Sta.ext O0.2 S_SHARES) (g := (mkF m 17 #[.val (.double x0), .second, .val (.double (4600376579043135114 : UInt64)), .second, vi 2] [(.double (4600376579043135114 : UInt64))])) rfl (hb hby d11)
  obtain ⟨T7, X7, e7, st7⟩ := getS2 X6 hx hZ hown (host := "") (Or.inl (w7 hw)) Via.refl e6 (Sta.ext O0.2 S_SIZES) (g := (mkF m 7 #[.val (.double x0), .second, .val (.double (4602837345879530353 : UInt64)), .second, vi 3] [(.int 3)])) rfl (hb hby d5)
  obtain ⟨T8, X8, e8, st8⟩ := getS2 X7 hx hZ hown (host := "") (Or.inl (w9 hw)) Via.refl e7 (Sta.ext O0.2 S_SHARES) (g := (mkF m 17 #[.val (.double x0), .second, .val (.double (4602837345879530353 : UInt64)), .second, vi 3] [(.double (4602837345879530353 : UInt64))])) rfl (hb hby d11)
  obtain ⟨T9, X9, e9, st9⟩ := getS2 X8 hx hZ hown (host := "") (Or.inl (w7 hw)) Via.refl e8 (Sta.ext O0.2 S_SIZES) (g := (mkF m 7 #[.val (.double x0), .second, .val (.double (4603889386752484101 : UInt64)), .second, vi 4] [(.int 4)])) rfl (hb hby d5)
  obtain ⟨T10, X10, e10, st10⟩ := getS2 X9 hx hZ hown (host := "") (Or.inl (w9 hw)) Via.refl e9 (Sta.ext O0.2 S_SHARES) (g := (mkF m 17 #[.val (.double x0), .second, .val (.double (4603889386752484101 : UInt64)), .second, vi 4] [(.double (4603889386752484101 : UInt64))])) rfl (hb hby d11)
  obtain ⟨T11, X11, e11, st11⟩ := getS2 X10 hx hZ hown (host := "") (Or.inl (w7 hw)) Via.refl e10 (Sta.ext O0.2 S_SIZES) (g := (mkF m 7 #[.val (.double x0), .second, .val (.double (4604827936914828112 : UInt64)), .second, vi 5] [(.int 5)])) rfl (hb hby d5)
  obtain ⟨T12, X12, e12, st12⟩ := getS2 X11 hx hZ hown (host := "") (Or.inl (w9 hw)) Via.refl e11 (Sta.ext O0.2 S_SHARES) (g := (mkF m 17 #[.val (.double x0), .second, .val (.double (4604827936914828112 : UInt64)), .second, vi 5] [(.double (4604827936914828112 : UInt64))])) rfl (hb hby d11)
  obtain ⟨T13, X13, e13, st13⟩ := getS2 X12 hx hZ hown (host := "") (Or.inl (w7 hw)) Via.refl e12 (Sta.ext O0.2 S_SIZES) (g := (mkF m 7 #[.val (.double x0), .second, .val (.double (4606424012622768216 : UInt64)), .second, vi 6] [(.int 6)])) rfl (hb hby d5)
  obtain ⟨T14, X14, e14, st14⟩ := getS2 X13 hx hZ hown (host := "") (Or.inl (w9 hw)) Via.refl e13 (Sta.ext O0.2 S_SHARES) (g := (mkF m 17 #[.val (.double x0), .second, .val (.double (4606424012622768216 : UInt64)), .second, vi 6] [(.double (4606424012622768216 : UInt64))])) rfl (hb hby d11)
  obtain ⟨T15, X15, e15, st15⟩ := getS2 X14 hx hZ hown (host := "") (Or.inl (w7 hw)) Via.refl e14 (Sta.ext O0.2 S_SIZES) (g := (mkF m 7 #[.val (.double x0), .second, .val (.double (4607038303611941552 : UInt64)), .second, vi 7] [(.int 7)])) rfl (hb hby d5)
  obtain ⟨T16, X16, e16, st16⟩ := getS2 X15 hx hZ hown (host := "") (Or.inl (w7 hw)) Via.refl e15 (Sta.ext O0.2 S_SIZES) (g := (mkF m 44 #[.val (.double x0), .second, .val (.double (4607038303611941552 : UInt64)), .second, vi 7] [])) rfl (hb hby d26)
  obtain ⟨T17, X17, e17, st17⟩ := getS2 X16 hx hZ hown (host := "") (Or.inl (w7 hw)) Via.refl e16 (Sta.ext O0.2 S_SIZES) (g := (mkF m 47 #[.val (.double x0), .second, .val (.double (4607038303611941552 : UInt64)), .second, vi 7] [(.ref st_SIZES)])) rfl (hb hby d27)
  refine ⟨T17, _, some (.int 128), X17, (fun h => by cases h <;> rfl), ?_, fun fs hr => ?_⟩
  · show Q_r_procs7 Z st_SIZES st_SHARES x0 k_st_SIZES k_st_SHARES h0 n0 _ T17.heap _
    rw [e17]
    exact ⟨rfl, N0, rfl⟩
  · refine t_dconst0 1 (r := (FP.l2d (0 : Int64))) X0.here hx (hb hby d0) own_dconst0 rfl ?_
    refine t_dstoreN (pc' := 2) (L' := #[.val (.double x0), .second, .val (.double (FP.l2d (0 : Int64))), .second, .unset]) X0.here hx (hb hby d1) rfl rfl ?_
    refine t_iconst 3 (r := 0) X0.here hx (hb hby d2) (by decide) rfl ?_
    refine t_istore (pc' := 5) (L' := #[.val (.double x0), .second, .val (.double (FP.l2d (0 : Int64))), .second, vi 0]) X0.here hx (hb hby d3) rfl rfl ?_
    refine t_iload 7 X0.here hx (hb hby d4) rfl rfl ?_
    refine st1 _ ?_
    refine own_arlen (pc' := 11) X1 hx hZ e1 V_st_SIZES (hb hby d6) rfl ?_
    refine t_iconst 12 (r := 1) X1.here hx (hb hby d7) (by decide) rfl ?_
    refine t_isub 13 (r := 7) X1.here hx (hb hby d8) (by decide : ((8 : Int32) - (1 : Int32)) = (7 : Int32)) rfl ?_
    refine t_icmpNo 16 X1.here hx (hb hby d9) (by decide) rfl ?_
    refine t_dloadN 17 X1.here hx (hb hby d10) rfl rfl ?_
    refine st2 _ ?_
    refine t_iload 22 X2.here hx (hb hby d12) rfl rfl ?_
    refine own_aldD (pc' := 23) X2 hx hZ e2 V_st_SHARES (j := 0) (v := (.double (4598557124793677434 : UInt64))) (by decide) rfl (hb hby d13) rfl ?_
    refine t_dadd 24 (r := (4598557124793677434 : UInt64)) X2.here hx (hb hby d14) (by unfold Jvm.Free.Fl.NoNaN64; decide +kernel) (by decide +kernel) rfl ?_
    refine t_dstoreN (pc' := 25) (L' := #[.val (.double x0), .second, .val (.double (4598557124793677434 : UInt64)), .second, vi 0]) X2.here hx (hb hby d15) rfl rfl ?_
    refine t_dloadN 26 X2.here hx (hb hby d16) rfl rfl ?_
    refine t_dloadN 27 X2.here hx (hb hby d17) rfl rfl ?_
    refine t_dcmp 28 (r := (cmpValue (FP.dcmp x0 (4598557124793677434 : UInt64)) .g)) X2.here hx (hb hby d18) rfl rfl ?_
    refine t_ifYes (pc := 28) 38 X2.here hx (hb hby d19) ((if0 _ _).trans (flt hp0).2.1) (by decide) (by decide) ?_
    refine t_iinc (pc' := 41) (L' := #[.val (.double x0), .second, .val (.double (4598557124793677434 : UInt64)), .second, vi 1]) X2.here hx (hb hby d24) rfl (by first | rfl | decide) rfl ?_
    refine t_goto (pc := 41) 5 X2.here hx (hb hby d25) (by decide) (by decide) ?_
    refine t_iload 7 X2.here hx (hb hby d4) rfl rfl ?_
    refine st3 _ ?_
    refine own_arlen (pc' := 11) X3 hx hZ e3 V_st_SIZES (hb hby d6) rfl ?_
    refine t_iconst 12 (r := 1) X3.here hx (hb hby d7) (by decide) rfl ?_
    refine t_isub 13 (r := 7) X3.here hx (hb hby d8) (by decide : ((8 : Int32) - (1 : Int32)) = (7 : Int32)) rfl ?_
    refine t_icmpNo 16 X3.here hx (hb hby d9) (by decide) rfl ?_
    refine t_dloadN 17 X3.here hx (hb hby d10) rfl rfl ?_
    refine st4 _ ?_
    refine t_iload 22 X4.here hx (hb hby d12) rfl rfl ?_
    refine own_aldD (pc' := 23) X4 hx hZ e4 V_st_SHARES (j := 1) (v := (.double (4591942237660995650 : UInt64))) (by decide) rfl (hb hby d13) rfl ?_
    refine t_dadd 24 (r := (4600376579043135114 : UInt64)) X4.here hx (hb hby d14) (by unfold Jvm.Free.Fl.NoNaN64; decide +kernel) (by decide +kernel) rfl ?_
    refine t_dstoreN (pc' := 25) (L' := #[.val (.double x0), .second, .val (.double (4600376579043135114 : UInt64)), .second, vi 1]) X4.here hx (hb hby d15) rfl rfl ?_
    refine t_dloadN 26 X4.here hx (hb hby d16) rfl rfl ?_
    refine t_dloadN 27 X4.here hx (hb hby d17) rfl rfl ?_
    refine t_dcmp 28 (r := (cmpValue (FP.dcmp x0 (4600376579043135114 : UInt64)) .g)) X4.here hx (hb hby d18) rfl rfl ?_
    refine t_ifYes (pc := 28) 38 X4.here hx (hb hby d19) ((if0 _ _).trans (flt hp1).2.1) (by decide) (by decide) ?_
    refine t_iinc (pc' := 41) (L' := #[.val (.double x0), .second, .val (.double (4600376579043135114 : UInt64)), .second, vi 2]) X4.here hx (hb hby d24) rfl (by first | rfl | decide) rfl ?_
    refine t_goto (pc := 41) 5 X4.here hx (hb hby d25) (by decide) (by decide) ?_
    refine t_iload 7 X4.here hx (hb hby d4) rfl rfl ?_
    refine st5 _ ?_
    refine own_arlen (pc' := 11) X5 hx hZ e5 V_st_SIZES (hb hby d6) rfl ?_
    refine t_iconst 12 (r := 1) X5.here hx (hb hby d7) (by decide) rfl ?_
    refine t_isub 13 (r := 7) X5.here hx (hb hby d8) (by decide : ((8 : Int32) - (1 : Int32)) = (7 : Int32)) rfl ?_
    refine t_icmpNo 16 X5.here hx (hb hby d9) (by decide) rfl ?_
    refine t_dloadN 17 X5.here hx (hb hby d10) rfl rfl ?_
    refine st6 _ ?_
    refine t_iload 22 X6.here hx (hb hby d12) rfl rfl ?_
    refine own_aldD (pc' := 23) X6 hx hZ e6 V_st_SHARES (j := 2) (v := (.double (4594406607377092785 : UInt64))) (by decide) rfl (hb hby d13) rfl ?_
    refine t_dadd 24 (r := (4602837345879530353 : UInt64)) X6.here hx (hb hby d14) (by unfold Jvm.Free.Fl.NoNaN64; decide +kernel) (by decide +kernel) rfl ?_
    refine t_dstoreN (pc' := 25) (L' := #[.val (.double x0), .second, .val (.double (4602837345879530353 : UInt64)), .second, vi 2]) X6.here hx (hb hby d15) rfl rfl ?_
    refine t_dloadN 26 X6.here hx (hb hby d16) rfl rfl ?_
    refine t_dloadN 27 X6.here hx (hb hby d17) rfl rfl ?_
    refine t_dcmp 28 (r := (cmpValue (FP.dcmp x0 (4602837345879530353 : UInt64)) .g)) X6.here hx (hb hby d18) rfl rfl ?_
    refine t_ifYes (pc := 28) 38 X6.here hx (hb hby d19) ((if0 _ _).trans (flt hp2).2.1) (by decide) (by decide) ?_
    refine t_iinc (pc' := 41) (L' := #[.val (.double x0), .second, .val (.double (4602837345879530353 : UInt64)), .second, vi 3]) X6.here hx (hb hby d24) rfl (by first | rfl | decide) rfl ?_
    refine t_goto (pc := 41) 5 X6.here hx (hb hby d25) (by decide) (by decide) ?_
    refine t_iload 7 X6.here hx (hb hby d4) rfl rfl ?_
    refine st7 _ ?_
    refine own_arlen (pc' := 11) X7 hx hZ e7 V_st_SIZES (hb hby d6) rfl ?_
    refine t_iconst 12 (r := 1) X7.here hx (hb hby d7) (by decide) rfl ?_
    refine t_isub 13 (r := 7) X7.here hx (hb hby d8) (by decide : ((8 : Int32) - (1 : Int32)) = (7 : Int32)) rfl ?_
    refine t_icmpNo 16 X7.here hx (hb hby d9) (by decide) rfl ?_
    refine t_dloadN 17 X7.here hx (hb hby d10) rfl rfl ?_
    refine st8 _ ?_
    refine t_iload 22 X8.here hx (hb hby d12) rfl rfl ?_
    refine own_aldD (pc' := 23) X8 hx hZ e8 V_st_SHARES (j := 3) (v := (.double (4593080747646794911 : UInt64))) (by decide) rfl (hb hby d13) rfl ?_
    refine t_dadd 24 (r := (4603889386752484101 : UInt64)) X8.here hx (hb hby d14) (by unfold Jvm.Free.Fl.NoNaN64; decide +kernel) (by decide +kernel) rfl ?_
    refine t_dstoreN (pc' := 25) (L' := #[.val (.double x0), .second, .val (.double (4603889386752484101 : UInt64)), .second, vi 3]) X8.here hx (hb hby d15) rfl rfl ?_
    refine t_dloadN 26 X8.here hx (hb hby d16) rfl rfl ?_
    refine t_dloadN 27 X8.here hx (hb hby d17) rfl rfl ?_
    refine t_dcmp 28 (r := (cmpValue (FP.dcmp x0 (4603889386752484101 : UInt64)) .g)) X8.here hx (hb hby d18) rfl rfl ?_
    refine t_ifYes (pc := 28) 38 X8.here hx (hb hby d19) ((if0 _ _).trans (flt hp3).2.1) (by decide) (by decide) ?_
    refine t_iinc (pc' := 41) (L' := #[.val (.double x0), .second, .val (.double (4603889386752484101 : UInt64)), .second, vi 4]) X8.here hx (hb hby d24) rfl (by first | rfl | decide) rfl ?_
    refine t_goto (pc := 41) 5 X8.here hx (hb hby d25) (by decide) (by decide) ?_
    refine t_iload 7 X8.here hx (hb hby d4) rfl rfl ?_
    refine st9 _ ?_
    refine own_arlen (pc' := 11) X9 hx hZ e9 V_st_SIZES (hb hby d6) rfl ?_
    refine t_iconst 12 (r := 1) X9.here hx (hb hby d7) (by decide) rfl ?_
    refine t_isub 13 (r := 7) X9.here hx (hb hby d8) (by decide : ((8 : Int32) - (1 : Int32)) = (7 : Int32)) rfl ?_
    refine t_icmpNo 16 X9.here hx (hb hby d9) (by decide) rfl ?_
    refine t_dloadN 17 X9.here hx (hb hby d10) rfl rfl ?_
    refine st10 _ ?_
    refine t_iload 22 X10.here hx (hb hby d12) rfl rfl ?_
    refine own_aldD (pc' := 23) X10 hx hZ e10 V_st_SHARES (j := 4) (v := (.double (4592172821961917019 : UInt64))) (by decide) rfl (hb hby d13) rfl ?_
    refine t_dadd 24 (r := (4604827936914828112 : UInt64)) X10.here hx (hb hby d14) (by unfold Jvm.Free.Fl.NoNaN64; decide +kernel) (by decide +kernel) rfl ?_
    refine t_dstoreN (pc' := 25) (L' := #[.val (.double x0), .second, .val (.double (4604827936914828112 : UInt64)), .second, vi 4]) X10.here hx (hb hby d15) rfl rfl ?_
    refine t_dloadN 26 X10.here hx (hb hby d16) rfl rfl ?_
    refine t_dloadN 27 X10.here hx (hb hby d17) rfl rfl ?_
    refine t_dcmp 28 (r := (cmpValue (FP.dcmp x0 (4604827936914828112 : UInt64)) .g)) X10.here hx (hb hby d18) rfl rfl ?_
    refine t_ifYes (pc := 28) 38 X10.here hx (hb hby d19) ((if0 _ _).trans (flt hp4).2.1) (by decide) (by decide) ?_
    refine t_iinc (pc' := 41) (L' := #[.val (.double x0), .second, .val (.double (4604827936914828112 : UInt64)), .second, vi 5]) X10.here hx (hb hby d24) rfl (by first | rfl | decide) rfl ?_
    refine t_goto (pc := 41) 5 X10.here hx (hb hby d25) (by decide) (by decide) ?_
    refine t_iload 7 X10.here hx (hb hby d4) rfl rfl ?_
    refine st11 _ ?_
    refine own_arlen (pc' := 11) X11 hx hZ e11 V_st_SIZES (hb hby d6) rfl ?_
    refine t_iconst 12 (r := 1) X11.here hx (hb hby d7) (by decide) rfl ?_
    refine t_isub 13 (r := 7) X11.here hx (hb hby d8) (by decide : ((8 : Int32) - (1 : Int32)) = (7 : Int32)) rfl ?_
    refine t_icmpNo 16 X11.here hx (hb hby d9) (by decide) rfl ?_
    refine t_dloadN 17 X11.here hx (hb hby d10) rfl rfl ?_
    refine st12 _ ?_
    refine t_iload 22 X12.here hx (hb hby d12) rfl rfl ?_
    refine own_aldD (pc' := 23) X12 hx hZ e12 V_st_SHARES (j := 5) (v := (.double (4595552323122295839 : UInt64))) (by decide) rfl (hb hby d13) rfl ?_
    refine t_dadd 24 (r := (4606424012622768216 : UInt64)) X12.here hx (hb hby d14) (by unfold Jvm.Free.Fl.NoNaN64; decide +kernel) (by decide +kernel) rfl ?_
    refine t_dstoreN (pc' := 25) (L' := #[.val (.double x0), .second, .val (.double (4606424012622768216 : UInt64)), .second, vi 5]) X12.here hx (hb hby d15) rfl rfl ?_
    refine t_dloadN 26 X12.here hx (hb hby d16) rfl rfl ?_
    refine t_dloadN 27 X12.here hx (hb hby d17) rfl rfl ?_
    refine t_dcmp 28 (r := (cmpValue (FP.dcmp x0 (4606424012622768216 : UInt64)) .g)) X12.here hx (hb hby d18) rfl rfl ?_
    refine t_ifYes (pc := 28) 38 X12.here hx (hb hby d19) ((if0 _ _).trans (flt hp5).2.1) (by decide) (by decide) ?_
    refine t_iinc (pc' := 41) (L' := #[.val (.double x0), .second, .val (.double (4606424012622768216 : UInt64)), .second, vi 6]) X12.here hx (hb hby d24) rfl (by first | rfl | decide) rfl ?_
    refine t_goto (pc := 41) 5 X12.here hx (hb hby d25) (by decide) (by decide) ?_
    refine t_iload 7 X12.here hx (hb hby d4) rfl rfl ?_
    refine st13 _ ?_
    refine own_arlen (pc' := 11) X13 hx hZ e13 V_st_SIZES (hb hby d6) rfl ?_
    refine t_iconst 12 (r := 1) X13.here hx (hb hby d7) (by decide) rfl ?_
    refine t_isub 13 (r := 7) X13.here hx (hb hby d8) (by decide : ((8 : Int32) - (1 : Int32)) = (7 : Int32)) rfl ?_
    refine t_icmpNo 16 X13.here hx (hb hby d9) (by decide) rfl ?_
    refine t_dloadN 17 X13.here hx (hb hby d10) rfl rfl ?_
    refine st14 _ ?_
    refine t_iload 22 X14.here hx (hb hby d12) rfl rfl ?_
    refine own_aldD (pc' := 23) X14 hx hZ e14 V_st_SHARES (j := 6) (v := (.double (4589578748576551613 : UInt64))) (by decide) rfl (hb hby d13) rfl ?_
    refine t_dadd 24 (r := (4607038303611941552 : UInt64)) X14.here hx (hb hby d14) (by unfold Jvm.Free.Fl.NoNaN64; decide +kernel) (by decide +kernel) rfl ?_
    refine t_dstoreN (pc' := 25) (L' := #[.val (.double x0), .second, .val (.double (4607038303611941552 : UInt64)), .second, vi 6]) X14.here hx (hb hby d15) rfl rfl ?_
    refine t_dloadN 26 X14.here hx (hb hby d16) rfl rfl ?_
    refine t_dloadN 27 X14.here hx (hb hby d17) rfl rfl ?_
    refine t_dcmp 28 (r := (cmpValue (FP.dcmp x0 (4607038303611941552 : UInt64)) .g)) X14.here hx (hb hby d18) rfl rfl ?_
    refine t_ifYes (pc := 28) 38 X14.here hx (hb hby d19) ((if0 _ _).trans (flt hp6).2.1) (by decide) (by decide) ?_
    refine t_iinc (pc' := 41) (L' := #[.val (.double x0), .second, .val (.double (4607038303611941552 : UInt64)), .second, vi 7]) X14.here hx (hb hby d24) rfl (by first | rfl | decide) rfl ?_
    refine t_goto (pc := 41) 5 X14.here hx (hb hby d25) (by decide) (by decide) ?_
    refine t_iload 7 X14.here hx (hb hby d4) rfl rfl ?_
    refine st15 _ ?_
    refine own_arlen (pc' := 11) X15 hx hZ e15 V_st_SIZES (hb hby d6) rfl ?_
    refine t_iconst 12 (r := 1) X15.here hx (hb hby d7) (by decide) rfl ?_
    refine t_isub 13 (r := 7) X15.here hx (hb hby d8) (by decide : ((8 : Int32) - (1 : Int32)) = (7 : Int32)) rfl ?_
    refine t_icmpYes (pc := 13) 44 X15.here hx (hb hby d9) (by decide) (by decide) (by decide) ?_
    refine st16 _ ?_
    refine st17 _ ?_
    refine own_arlen (pc' := 51) X17 hx hZ e17 V_st_SIZES (hb hby d28) rfl ?_
    refine t_iconst 52 (r := 1) X17.here hx (hb hby d29) (by decide) rfl ?_
    refine t_isub 53 (r := 7) X17.here hx (hb hby d30) (by decide : ((8 : Int32) - (1 : Int32)) = (7 : Int32)) rfl ?_
    refine own_aldI (pc' := 54) X17 hx hZ e17 V_st_SIZES (j := 7) (v := (.int 128)) (by decide) rfl (hb hby d31) rfl ?_
    exact retI X17 hx hret (hb hby d32) hr
abbrev b1_ := method_2_code
theorem d33 : decode b1_ 0 = .ok (.iload_n 0, 1) := by decide +kernel
theorem d34 : decode b1_ 1 = .ok (.ldc 7, 2) := by decide +kernel
def w15 (hw : HW Z a0) := ow 15 hw rfl
theorem d35 : decode b1_ 3 = .ok (.if_icmp .ge 5, 3) := by decide +kernel
theorem d36 : decode b1_ 6 = .ok (.iconst 1, 1) := by decide +kernel
theorem d37 : decode b1_ 7 = .ok (.ireturn, 1) := by decide +kernel
theorem pn_ModelProcsPinLaw99 : plainName "com/example/bourse/bourse/workload/ModelProcsPinLaw" = true := by first | (simp [plainName, overriddenIn]; done) | decide +kernel
abbrev y1_expected : MethodName := ⟨"com/example/bourse/bourse/workload/ModelProcsPinLaw", "expected", "(I)I"⟩
def Q_r_exp0 (Z : State) (p0 : Int32) (h0 : Heap) (n0 : Nat) (v : Option Value) (h : Heap) (L : List Loc) : Prop := v = some (.int 1) ∧ Fr n0 L ∧ h = h0
theorem ef_r_exp0 (p0 : Int32) (m : MethodId) : entryFrame m #[(.int p0)] 1 = mkF m 0 #[.val (.int p0)] [] := by first | (simp [entryFrame, mkF, argsToLocals, Value.category]; done) | rfl
set_option maxRecDepth 65536 in
set_option maxHeartbeats 40000000 in
theorem r_exp0 (l : Launch) (Z : State) (a0 : Array Value) (hw : HW Z a0) (ws : List Jvm.Cond) (p0 : Int32) (h0 : Heap) (n0 : Nat) (Z0 : n0 ≤ h0.size) (hp0 : p0 < (27120000 : Int32)) :
    MF l Z y1_expected b1_ 1 (some .int) ws ⟨0, 0, 0, 0⟩ #[(.int p0)] h0 (Q_r_exp0 Z p0 h0 n0) := by
  refine own_body (plainFor_of_name pn_ModelProcsPinLaw99) (ef_r_exp0 p0) (by decide) (by decide) ?_
  intro p e s m below meth c s₁ hx hby hml hown hnm hret hZ hh e0 X0
  have N0 := Fr.nil n0
  refine ⟨s₁, _, some (.int 1), X0, (fun h => by cases h <;> rfl), ?_, fun fs hr => ?_⟩
  · show Q_r_exp0 Z p0 h0 n0 _ s₁.heap _
    rw [e0]
    exact ⟨rfl, N0, rfl⟩
  · refine t_iloadN 1 X0.here hx (hb hby d33) rfl rfl ?_
    refine X0.ldcInt hx hown (mvT hZ (w15 hw)) (g := (mkF m 1 #[vi p0] [(.int p0)])) rfl (hb hby d34) _ ?_
    refine t_icmpNo 6 X0.here hx (hb hby d35) (tlt hp0).2.1 rfl ?_
    refine t_iconst 7 (r := 1) X0.here hx (hb hby d36) (by decide) rfl ?_
    exact retI X0 hx hret (hb hby d37) hr
theorem d38 : decode b1_ 8 = .ok (.iload_n 0, 1) := by decide +kernel
theorem d39 : decode b1_ 9 = .ok (.ldc 8, 2) := by decide +kernel
def w17 (hw : HW Z a0) := ow 17 hw rfl
theorem d40 : decode b1_ 11 = .ok (.if_icmp .ge 5, 3) := by decide +kernel
theorem d41 : decode b1_ 14 = .ok (.iconst 2, 1) := by decide +kernel
theorem d42 : decode b1_ 15 = .ok (.ireturn, 1) := by decide +kernel
def Q_r_exp1 (Z : State) (p0 : Int32) (h0 : Heap) (n0 : Nat) (v : Option Value) (h : Heap) (L : List Loc) : Prop := v = some (.int 2) ∧ Fr n0 L ∧ h = h0
theorem ef_r_exp1 (p0 : Int32) (m : MethodId) : entryFrame m #[(.int p0)] 1 = mkF m 0 #[.val (.int p0)] [] := by first | (simp [entryFrame, mkF, argsToLocals, Value.category]; done) | rfl
set_option maxRecDepth 65536 in
set_option maxHeartbeats 40000000 in
theorem r_exp1 (l : Launch) (Z : State) (a0 : Array Value) (hw : HW Z a0) (ws : List Jvm.Cond) (p0 : Int32) (h0 : Heap) (n0 : Nat) (Z0 : n0 ≤ h0.size) (hp0 : ¬ (p0 < (27120000 : Int32))) (hp1 : p0 < (37220000 : Int32)) :
    MF l Z y1_expected b1_ 1 (some .int) ws ⟨0, 0, 0, 0⟩ #[(.int p0)] h0 (Q_r_exp1 Z p0 h0 n0) := by
  refine own_body (plainFor_of_name pn_ModelProcsPinLaw99) (ef_r_exp1 p0) (by decide) (by decide) ?_
  intro p e s m below meth c s₁ hx hby hml hown hnm hret hZ hh e0 X0
  have N0 := Fr.nil n0
  refine ⟨s₁, _, some (.int 2), X0, (fun h => by cases h <;> rfl), ?_, fun fs hr => ?_⟩
  · show Q_r_exp1 Z p0 h0 n0 _ s₁.heap _
    rw [e0]
    exact ⟨rfl, N0, rfl⟩
  · refine t_iloadN 1 X0.here hx (hb hby d33) rfl rfl ?_
    refine X0.ldcInt hx hown (mvT hZ (w15 hw)) (g := (mkF m 1 #[vi p0] [(.int p0)])) rfl (hb hby d34) _ ?_
    refine t_icmpYes (pc := 3) 8 X0.here hx (hb hby d35) (flt hp0).2.1 (by decide) (by decide) ?_
    refine t_iloadN 9 X0.here hx (hb hby d38) rfl rfl ?_
    refine X0.ldcInt hx hown (mvT hZ (w17 hw)) (g := (mkF m 9 #[vi p0] [(.int p0)])) rfl (hb hby d39) _ ?_
    refine t_icmpNo 14 X0.here hx (hb hby d40) (tlt hp1).2.1 rfl ?_
    refine t_iconst 15 (r := 2) X0.here hx (hb hby d41) (by decide) rfl ?_
    exact retI X0 hx hret (hb hby d42) hr
theorem d43 : decode b1_ 16 = .ok (.iload_n 0, 1) := by decide +kernel
theorem d44 : decode b1_ 17 = .ok (.ldc 9, 2) := by decide +kernel
def w18 (hw : HW Z a0) := ow 18 hw rfl
theorem d45 : decode b1_ 19 = .ok (.if_icmp .ge 5, 3) := by decide +kernel
theorem d46 : decode b1_ 22 = .ok (.iconst 4, 1) := by decide +kernel
theorem d47 : decode b1_ 23 = .ok (.ireturn, 1) := by decide +kernel
def Q_r_exp2 (Z : State) (p0 : Int32) (h0 : Heap) (n0 : Nat) (v : Option Value) (h : Heap) (L : List Loc) : Prop := v = some (.int 4) ∧ Fr n0 L ∧ h = h0
theorem ef_r_exp2 (p0 : Int32) (m : MethodId) : entryFrame m #[(.int p0)] 1 = mkF m 0 #[.val (.int p0)] [] := by first | (simp [entryFrame, mkF, argsToLocals, Value.category]; done) | rfl
set_option maxRecDepth 65536 in
set_option maxHeartbeats 40000000 in
theorem r_exp2 (l : Launch) (Z : State) (a0 : Array Value) (hw : HW Z a0) (ws : List Jvm.Cond) (p0 : Int32) (h0 : Heap) (n0 : Nat) (Z0 : n0 ≤ h0.size) (hp0 : ¬ (p0 < (27120000 : Int32))) (hp1 : ¬ (p0 < (37220000 : Int32))) (hp2 : p0 < (51760000 : Int32)) :
    MF l Z y1_expected b1_ 1 (some .int) ws ⟨0, 0, 0, 0⟩ #[(.int p0)] h0 (Q_r_exp2 Z p0 h0 n0) := by
  refine own_body (plainFor_of_name pn_ModelProcsPinLaw99) (ef_r_exp2 p0) (by decide) (by decide) ?_
  intro p e s m below meth c s₁ hx hby hml hown hnm hret hZ hh e0 X0
  have N0 := Fr.nil n0
  refine ⟨s₁, _, some (.int 4), X0, (fun h => by cases h <;> rfl), ?_, fun fs hr => ?_⟩
  · show Q_r_exp2 Z p0 h0 n0 _ s₁.heap _
    rw [e0]
    exact ⟨rfl, N0, rfl⟩
  · refine t_iloadN 1 X0.here hx (hb hby d33) rfl rfl ?_
    refine X0.ldcInt hx hown (mvT hZ (w15 hw)) (g := (mkF m 1 #[vi p0] [(.int p0)])) rfl (hb hby d34) _ ?_
    refine t_icmpYes (pc := 3) 8 X0.here hx (hb hby d35) (flt hp0).2.1 (by decide) (by decide) ?_
    refine t_iloadN 9 X0.here hx (hb hby d38) rfl rfl ?_
    refine X0.ldcInt hx hown (mvT hZ (w17 hw)) (g := (mkF m 9 #[vi p0] [(.int p0)])) rfl (hb hby d39) _ ?_
    refine t_icmpYes (pc := 11) 16 X0.here hx (hb hby d40) (flt hp1).2.1 (by decide) (by decide) ?_
    refine t_iloadN 17 X0.here hx (hb hby d43) rfl rfl ?_
    refine X0.ldcInt hx hown (mvT hZ (w18 hw)) (g := (mkF m 17 #[vi p0] [(.int p0)])) rfl (hb hby d44) _ ?_
    refine t_icmpNo 22 X0.here hx (hb hby d45) (tlt hp2).2.1 rfl ?_
    refine t_iconst 23 (r := 4) X0.here hx (hb hby d46) (by decide) rfl ?_
    exact retI X0 hx hret (hb hby d47) hr
theorem d48 : decode b1_ 24 = .ok (.iload_n 0, 1) := by decide +kernel
theorem d49 : decode b1_ 25 = .ok (.ldc 10, 2) := by decide +kernel
def w19 (hw : HW Z a0) := ow 19 hw rfl
theorem d50 : decode b1_ 27 = .ok (.if_icmp .ge 6, 3) := by decide +kernel
theorem d51 : decode b1_ 30 = .ok (.bipush 8, 2) := by decide +kernel
theorem d52 : decode b1_ 32 = .ok (.ireturn, 1) := by decide +kernel
def Q_r_exp3 (Z : State) (p0 : Int32) (h0 : Heap) (n0 : Nat) (v : Option Value) (h : Heap) (L : List Loc) : Prop := v = some (.int 8) ∧ Fr n0 L ∧ h = h0
theorem ef_r_exp3 (p0 : Int32) (m : MethodId) : entryFrame m #[(.int p0)] 1 = mkF m 0 #[.val (.int p0)] [] := by first | (simp [entryFrame, mkF, argsToLocals, Value.category]; done) | rfl
set_option maxRecDepth 65536 in
set_option maxHeartbeats 40000000 in
theorem r_exp3 (l : Launch) (Z : State) (a0 : Array Value) (hw : HW Z a0) (ws : List Jvm.Cond) (p0 : Int32) (h0 : Heap) (n0 : Nat) (Z0 : n0 ≤ h0.size) (hp0 : ¬ (p0 < (27120000 : Int32))) (hp1 : ¬ (p0 < (37220000 : Int32))) (hp2 : ¬ (p0 < (51760000 : Int32))) (hp3 : p0 < (63440000 : Int32)) :
    MF l Z y1_expected b1_ 1 (some .int) ws ⟨0, 0, 0, 0⟩ #[(.int p0)] h0 (Q_r_exp3 Z p0 h0 n0) := by
  refine own_body (plainFor_of_name pn_ModelProcsPinLaw99) (ef_r_exp3 p0) (by decide) (by decide) ?_
  intro p e s m below meth c s₁ hx hby hml hown hnm hret hZ hh e0 X0
  have N0 := Fr.nil n0
  refine ⟨s₁, _, some (.int 8), X0, (fun h => by cases h <;> rfl), ?_, fun fs hr => ?_⟩
  · show Q_r_exp3 Z p0 h0 n0 _ s₁.heap _
    rw [e0]
    exact ⟨rfl, N0, rfl⟩
  · refine t_iloadN 1 X0.here hx (hb hby d33) rfl rfl ?_
    refine X0.ldcInt hx hown (mvT hZ (w15 hw)) (g := (mkF m 1 #[vi p0] [(.int p0)])) rfl (hb hby d34) _ ?_
    refine t_icmpYes (pc := 3) 8 X0.here hx (hb hby d35) (flt hp0).2.1 (by decide) (by decide) ?_
    refine t_iloadN 9 X0.here hx (hb hby d38) rfl rfl ?_
    refine X0.ldcInt hx hown (mvT hZ (w17 hw)) (g := (mkF m 9 #[vi p0] [(.int p0)])) rfl (hb hby d39) _ ?_
    refine t_icmpYes (pc := 11) 16 X0.here hx (hb hby d40) (flt hp1).2.1 (by decide) (by decide) ?_
    refine t_iloadN 17 X0.here hx (hb hby d43) rfl rfl ?_
    refine X0.ldcInt hx hown (mvT hZ (w18 hw)) (g := (mkF m 17 #[vi p0] [(.int p0)])) rfl (hb hby d44) _ ?_
    refine t_icmpYes (pc := 19) 24 X0.here hx (hb hby d45) (flt hp2).2.1 (by decide) (by decide) ?_
    refine t_iloadN 25 X0.here hx (hb hby d48) rfl rfl ?_
    refine X0.ldcInt hx hown (mvT hZ (w19 hw)) (g := (mkF m 25 #[vi p0] [(.int p0)])) rfl (hb hby d49) _ ?_
    refine t_icmpNo 30 X0.here hx (hb hby d50) (tlt hp3).2.1 rfl ?_
    refine t_bipush 32 (r := 8) X0.here hx (hb hby d51) (by decide) rfl ?_
    exact retI X0 hx hret (hb hby d52) hr
theorem d53 : decode b1_ 33 = .ok (.iload_n 0, 1) := by decide +kernel
theorem d54 : decode b1_ 34 = .ok (.ldc 11, 2) := by decide +kernel
def w20 (hw : HW Z a0) := ow 20 hw rfl
theorem d55 : decode b1_ 36 = .ok (.if_icmp .ge 6, 3) := by decide +kernel
theorem d56 : decode b1_ 39 = .ok (.bipush 16, 2) := by decide +kernel
theorem d57 : decode b1_ 41 = .ok (.ireturn, 1) := by decide +kernel
def Q_r_exp4 (Z : State) (p0 : Int32) (h0 : Heap) (n0 : Nat) (v : Option Value) (h : Heap) (L : List Loc) : Prop := v = some (.int 16) ∧ Fr n0 L ∧ h = h0
theorem ef_r_exp4 (p0 : Int32) (m : MethodId) : entryFrame m #[(.int p0)] 1 = mkF m 0 #[.val (.int p0)] [] := by first | (simp [entryFrame, mkF, argsToLocals, Value.category]; done) | rfl
set_option maxRecDepth 65536 in
set_option maxHeartbeats 40000000 in
theorem r_exp4 (l : Launch) (Z : State) (a0 : Array Value) (hw : HW Z a0) (ws : List Jvm.Cond) (p0 : Int32) (h0 : Heap) (n0 : Nat) (Z0 : n0 ≤ h0.size) (hp0 : ¬ (p0 < (27120000 : Int32))) (hp1 : ¬ (p0 < (37220000 : Int32))) (hp2 : ¬ (p0 < (51760000 : Int32))) (hp3 : ¬ (p0 < (63440000 : Int32))) (hp4 : p0 < (73860000 : Int32)) :
    MF l Z y1_expected b1_ 1 (some .int) ws ⟨0, 0, 0, 0⟩ #[(.int p0)] h0 (Q_r_exp4 Z p0 h0 n0) := by
  refine own_body (plainFor_of_name pn_ModelProcsPinLaw99) (ef_r_exp4 p0) (by decide) (by decide) ?_
  intro p e s m below meth c s₁ hx hby hml hown hnm hret hZ hh e0 X0
  have N0 := Fr.nil n0
  refine ⟨s₁, _, some (.int 16), X0, (fun h => by cases h <;> rfl), ?_, fun fs hr => ?_⟩
  · show Q_r_exp4 Z p0 h0 n0 _ s₁.heap _
    rw [e0]
    exact ⟨rfl, N0, rfl⟩
  · refine t_iloadN 1 X0.here hx (hb hby d33) rfl rfl ?_
    refine X0.ldcInt hx hown (mvT hZ (w15 hw)) (g := (mkF m 1 #[vi p0] [(.int p0)])) rfl (hb hby d34) _ ?_
    refine t_icmpYes (pc := 3) 8 X0.here hx (hb hby d35) (flt hp0).2.1 (by decide) (by decide) ?_
    refine t_iloadN 9 X0.here hx (hb hby d38) rfl rfl ?_
    refine X0.ldcInt hx hown (mvT hZ (w17 hw)) (g := (mkF m 9 #[vi p0] [(.int p0)])) rfl (hb hby d39) _ ?_
    refine t_icmpYes (pc := 11) 16 X0.here hx (hb hby d40) (flt hp1).2.1 (by decide) (by decide) ?_
    refine t_iloadN 17 X0.here hx (hb hby d43) rfl rfl ?_
    refine X0.ldcInt hx hown (mvT hZ (w18 hw)) (g := (mkF m 17 #[vi p0] [(.int p0)])) rfl (hb hby d44) _ ?_
    refine t_icmpYes (pc := 19) 24 X0.here hx (hb hby d45) (flt hp2).2.1 (by decide) (by decide) ?_
    refine t_iloadN 25 X0.here hx (hb hby d48) rfl rfl ?_
    refine X0.ldcInt hx hown (mvT hZ (w19 hw)) (g := (mkF m 25 #[vi p0] [(.int p0)])) rfl (hb hby d49) _ ?_
    refine t_icmpYes (pc := 27) 33 X0.here hx (hb hby d50) (flt hp3).2.1 (by decide) (by decide) ?_
    refine t_iloadN 34 X0.here hx (hb hby d53) rfl rfl ?_
    refine X0.ldcInt hx hown (mvT hZ (w20 hw)) (g := (mkF m 34 #[vi p0] [(.int p0)])) rfl (hb hby d54) _ ?_
    refine t_icmpNo 39 X0.here hx (hb hby d55) (tlt hp4).2.1 rfl ?_
    refine t_bipush 41 (r := 16) X0.here hx (hb hby d56) (by decide) rfl ?_
    exact retI X0 hx hret (hb hby d57) hr
theorem d58 : decode b1_ 42 = .ok (.iload_n 0, 1) := by decide +kernel
theorem d59 : decode b1_ 43 = .ok (.ldc 12, 2) := by decide +kernel
def w21 (hw : HW Z a0) := ow 21 hw rfl
theorem d60 : decode b1_ 45 = .ok (.if_icmp .ge 6, 3) := by decide +kernel
theorem d61 : decode b1_ 48 = .ok (.bipush 32, 2) := by decide +kernel
theorem d62 : decode b1_ 50 = .ok (.ireturn, 1) := by decide +kernel
def Q_r_exp5 (Z : State) (p0 : Int32) (h0 : Heap) (n0 : Nat) (v : Option Value) (h : Heap) (L : List Loc) : Prop := v = some (.int 32) ∧ Fr n0 L ∧ h = h0
theorem ef_r_exp5 (p0 : Int32) (m : MethodId) : entryFrame m #[(.int p0)] 1 = mkF m 0 #[.val (.int p0)] [] := by first | (simp [entryFrame, mkF, argsToLocals, Value.category]; done) | rfl
set_option maxRecDepth 65536 in
set_option maxHeartbeats 40000000 in
theorem r_exp5 (l : Launch) (Z : State) (a0 : Array Value) (hw : HW Z a0) (ws : List Jvm.Cond) (p0 : Int32) (h0 : Heap) (n0 : Nat) (Z0 : n0 ≤ h0.size) (hp0 : ¬ (p0 < (27120000 : Int32))) (hp1 : ¬ (p0 < (37220000 : Int32))) (hp2 : ¬ (p0 < (51760000 : Int32))) (hp3 : ¬ (p0 < (63440000 : Int32))) (hp4 : ¬ (p0 < (73860000 : Int32))) (hp5 : p0 < (91580000 : Int32)) :
    MF l Z y1_expected b1_ 1 (some .int) ws ⟨0, 0, 0, 0⟩ #[(.int p0)] h0 (Q_r_exp5 Z p0 h0 n0) := by
  refine own_body (plainFor_of_name pn_ModelProcsPinLaw99) (ef_r_exp5 p0) (by decide) (by decide) ?_
  intro p e s m below meth c s₁ hx hby hml hown hnm hret hZ hh e0 X0
  have N0 := Fr.nil n0
  refine ⟨s₁, _, some (.int 32), X0, (fun h => by cases h <;> rfl), ?_, fun fs hr => ?_⟩
  · show Q_r_exp5 Z p0 h0 n0 _ s₁.heap _
    rw [e0]
    exact ⟨rfl, N0, rfl⟩
  · refine t_iloadN 1 X0.here hx (hb hby d33) rfl rfl ?_
    refine X0.ldcInt hx hown (mvT hZ (w15 hw)) (g := (mkF m 1 #[vi p0] [(.int p0)])) rfl (hb hby d34) _ ?_
    refine t_icmpYes (pc := 3) 8 X0.here hx (hb hby d35) (flt hp0).2.1 (by decide) (by decide) ?_
    refine t_iloadN 9 X0.here hx (hb hby d38) rfl rfl ?_
    refine X0.ldcInt hx hown (mvT hZ (w17 hw)) (g := (mkF m 9 #[vi p0] [(.int p0)])) rfl (hb hby d39) _ ?_
    refine t_icmpYes (pc := 11) 16 X0.here hx (hb hby d40) (flt hp1).2.1 (by decide) (by decide) ?_
    refine t_iloadN 17 X0.here hx (hb hby d43) rfl rfl ?_
    refine X0.ldcInt hx hown (mvT hZ (w18 hw)) (g := (mkF m 17 #[vi p0] [(.int p0)])) rfl (hb hby d44) _ ?_
    refine t_icmpYes (pc := 19) 24 X0.here hx (hb hby d45) (flt hp2).2.1 (by decide) (by decide) ?_
    refine t_iloadN 25 X0.here hx (hb hby d48) rfl rfl ?_
    refine X0.ldcInt hx hown (mvT hZ (w19 hw)) (g := (mkF m 25 #[vi p0] [(.int p0)])) rfl (hb hby d49) _ ?_
    refine t_icmpYes (pc := 27) 33 X0.here hx (hb hby d50) (flt hp3).2.1 (by decide) (by decide) ?_
    refine t_iloadN 34 X0.here hx (hb hby d53) rfl rfl ?_
    refine X0.ldcInt hx hown (mvT hZ (w20 hw)) (g := (mkF m 34 #[vi p0] [(.int p0)])) rfl (hb hby d54) _ ?_
    refine t_icmpYes (pc := 36) 42 X0.here hx (hb hby d55) (flt hp4).2.1 (by decide) (by decide) ?_
    refine t_iloadN 43 X0.here hx (hb hby d58) rfl rfl ?_
    refine X0.ldcInt hx hown (mvT hZ (w21 hw)) (g := (mkF m 43 #[vi p0] [(.int p0)])) rfl (hb hby d59) _ ?_
    refine t_icmpNo 48 X0.here hx (hb hby d60) (tlt hp5).2.1 rfl ?_
    refine t_bipush 50 (r := 32) X0.here hx (hb hby d61) (by decide) rfl ?_
    exact retI X0 hx hret (hb hby d62) hr
theorem d63 : decode b1_ 51 = .ok (.iload_n 0, 1) := by decide +kernel
theorem d64 : decode b1_ 52 = .ok (.ldc 13, 2) := by decide +kernel
def w22 (hw : HW Z a0) := ow 22 hw rfl
theorem d65 : decode b1_ 54 = .ok (.if_icmp .ge 6, 3) := by decide +kernel
theorem d66 : decode b1_ 57 = .ok (.bipush 64, 2) := by decide +kernel
theorem d67 : decode b1_ 59 = .ok (.ireturn, 1) := by decide +kernel
def Q_r_exp6 (Z : State) (p0 : Int32) (h0 : Heap) (n0 : Nat) (v : Option Value) (h : Heap) (L : List Loc) : Prop := v = some (.int 64) ∧ Fr n0 L ∧ h = h0
theorem ef_r_exp6 (p0 : Int32) (m : MethodId) : entryFrame m #[(.int p0)] 1 = mkF m 0 #[.val (.int p0)] [] := by first | (simp [entryFrame, mkF, argsToLocals, Value.category]; done) | rfl
set_option maxRecDepth 65536 in
set_option maxHeartbeats 40000000 in
theorem r_exp6 (l : Launch) (Z : State) (a0 : Array Value) (hw : HW Z a0) (ws : List Jvm.Cond) (p0 : Int32) (h0 : Heap) (n0 : Nat) (Z0 : n0 ≤ h0.size) (hp0 : ¬ (p0 < (27120000 : Int32))) (hp1 : ¬ (p0 < (37220000 : Int32))) (hp2 : ¬ (p0 < (51760000 : Int32))) (hp3 : ¬ (p0 < (63440000 : Int32))) (hp4 : ¬ (p0 < (73860000 : Int32))) (hp5 : ¬ (p0 < (91580000 : Int32))) (hp6 : p0 < (98400000 : Int32)) :
    MF l Z y1_expected b1_ 1 (some .int) ws ⟨0, 0, 0, 0⟩ #[(.int p0)] h0 (Q_r_exp6 Z p0 h0 n0) := by
  refine own_body (plainFor_of_name pn_ModelProcsPinLaw99) (ef_r_exp6 p0) (by decide) (by decide) ?_
  intro p e s m below meth c s₁ hx hby hml hown hnm hret hZ hh e0 X0
  have N0 := Fr.nil n0
  refine ⟨s₁, _, some (.int 64), X0, (fun h => by cases h <;> rfl), ?_, fun fs hr => ?_⟩
  · show Q_r_exp6 Z p0 h0 n0 _ s₁.heap _
    rw [e0]
    exact ⟨rfl, N0, rfl⟩
  · refine t_iloadN 1 X0.here hx (hb hby d33) rfl rfl ?_
    refine X0.ldcInt hx hown (mvT hZ (w15 hw)) (g := (mkF m 1 #[vi p0] [(.int p0)])) rfl (hb hby d34) _ ?_
    refine t_icmpYes (pc := 3) 8 X0.here hx (hb hby d35) (flt hp0).2.1 (by decide) (by decide) ?_
    refine t_iloadN 9 X0.here hx (hb hby d38) rfl rfl ?_
    refine X0.ldcInt hx hown (mvT hZ (w17 hw)) (g := (mkF m 9 #[vi p0] [(.int p0)])) rfl (hb hby d39) _ ?_
    refine t_icmpYes (pc := 11) 16 X0.here hx (hb hby d40) (flt hp1).2.1 (by decide) (by decide) ?_
    refine t_iloadN 17 X0.here hx (hb hby d43) rfl rfl ?_
    refine X0.ldcInt hx hown (mvT hZ (w18 hw)) (g := (mkF m 17 #[vi p0] [(.int p0)])) rfl (hb hby d44) _ ?_
    refine t_icmpYes (pc := 19) 24 X0.here hx (hb hby d45) (flt hp2).2.1 (by decide) (by decide) ?_
    refine t_iloadN 25 X0.here hx (hb hby d48) rfl rfl ?_
    refine X0.ldcInt hx hown (mvT hZ (w19 hw)) (g := (mkF m 25 #[vi p0] [(.int p0)])) rfl (hb hby d49) _ ?_
    refine t_icmpYes (pc := 27) 33 X0.here hx (hb hby d50) (flt hp3).2.1 (by decide) (by decide) ?_
    refine t_iloadN 34 X0.here hx (hb hby d53) rfl rfl ?_
    refine X0.ldcInt hx hown (mvT hZ (w20 hw)) (g := (mkF m 34 #[vi p0] [(.int p0)])) rfl (hb hby d54) _ ?_
    refine t_icmpYes (pc := 36) 42 X0.here hx (hb hby d55) (flt hp4).2.1 (by decide) (by decide) ?_
    refine t_iloadN 43 X0.here hx (hb hby d58) rfl rfl ?_
    refine X0.ldcInt hx hown (mvT hZ (w21 hw)) (g := (mkF m 43 #[vi p0] [(.int p0)])) rfl (hb hby d59) _ ?_
    refine t_icmpYes (pc := 45) 51 X0.here hx (hb hby d60) (flt hp5).2.1 (by decide) (by decide) ?_
    refine t_iloadN 52 X0.here hx (hb hby d63) rfl rfl ?_
    refine X0.ldcInt hx hown (mvT hZ (w22 hw)) (g := (mkF m 52 #[vi p0] [(.int p0)])) rfl (hb hby d64) _ ?_
    refine t_icmpNo 57 X0.here hx (hb hby d65) (tlt hp6).2.1 rfl ?_
    refine t_bipush 59 (r := 64) X0.here hx (hb hby d66) (by decide) rfl ?_
    exact retI X0 hx hret (hb hby d67) hr
theorem d68 : decode b1_ 60 = .ok (.sipush 128, 3) := by decide +kernel
theorem d69 : decode b1_ 63 = .ok (.ireturn, 1) := by decide +kernel
def Q_r_exp7 (Z : State) (p0 : Int32) (h0 : Heap) (n0 : Nat) (v : Option Value) (h : Heap) (L : List Loc) : Prop := v = some (.int 128) ∧ Fr n0 L ∧ h = h0
theorem ef_r_exp7 (p0 : Int32) (m : MethodId) : entryFrame m #[(.int p0)] 1 = mkF m 0 #[.val (.int p0)] [] := by first | (simp [entryFrame, mkF, argsToLocals, Value.category]; done) | rfl
set_option maxRecDepth 65536 in
set_option maxHeartbeats 40000000 in
theorem r_exp7 (l : Launch) (Z : State) (a0 : Array Value) (hw : HW Z a0) (ws : List Jvm.Cond) (p0 : Int32) (h0 : Heap) (n0 : Nat) (Z0 : n0 ≤ h0.size) (hp0 : ¬ (p0 < (27120000 : Int32))) (hp1 : ¬ (p0 < (37220000 : Int32))) (hp2 : ¬ (p0 < (51760000 : Int32))) (hp3 : ¬ (p0 < (63440000 : Int32))) (hp4 : ¬ (p0 < (73860000 : Int32))) (hp5 : ¬ (p0 < (91580000 : Int32))) (hp6 : ¬ (p0 < (98400000 : Int32))) :
    MF l Z y1_expected b1_ 1 (some .int) ws ⟨0, 0, 0, 0⟩ #[(.int p0)] h0 (Q_r_exp7 Z p0 h0 n0) := by
  refine own_body (plainFor_of_name pn_ModelProcsPinLaw99) (ef_r_exp7 p0) (by decide) (by decide) ?_
  intro p e s m below meth c s₁ hx hby hml hown hnm hret hZ hh e0 X0
  have N0 := Fr.nil n0
  refine ⟨s₁, _, some (.int 128), X0, (fun h => by cases h <;> rfl), ?_, fun fs hr => ?_⟩
  · show Q_r_exp7 Z p0 h0 n0 _ s₁.heap _
    rw [e0]
    exact ⟨rfl, N0, rfl⟩
  · refine t_iloadN 1 X0.here hx (hb hby d33) rfl rfl ?_
    refine X0.ldcInt hx hown (mvT hZ (w15 hw)) (g := (mkF m 1 #[vi p0] [(.int p0)])) rfl (hb hby d34) _ ?_
    refine t_icmpYes (pc := 3) 8 X0.here hx (hb hby d35) (flt hp0).2.1 (by decide) (by decide) ?_
    refine t_iloadN 9 X0.here hx (hb hby d38) rfl rfl ?_
    refine X0.ldcInt hx hown (mvT hZ (w17 hw)) (g := (mkF m 9 #[vi p0] [(.int p0)])) rfl (hb hby d39) _ ?_
    refine t_icmpYes (pc := 11) 16 X0.here hx (hb hby d40) (flt hp1).2.1 (by decide) (by decide) ?_
    refine t_iloadN 17 X0.here hx (hb hby d43) rfl rfl ?_
    refine X0.ldcInt hx hown (mvT hZ (w18 hw)) (g := (mkF m 17 #[vi p0] [(.int p0)])) rfl (hb hby d44) _ ?_
    refine t_icmpYes (pc := 19) 24 X0.here hx (hb hby d45) (flt hp2).2.1 (by decide) (by decide) ?_
    refine t_iloadN 25 X0.here hx (hb hby d48) rfl rfl ?_
    refine X0.ldcInt hx hown (mvT hZ (w19 hw)) (g := (mkF m 25 #[vi p0] [(.int p0)])) rfl (hb hby d49) _ ?_
    refine t_icmpYes (pc := 27) 33 X0.here hx (hb hby d50) (flt hp3).2.1 (by decide) (by decide) ?_
    refine t_iloadN 34 X0.here hx (hb hby d53) rfl rfl ?_
    refine X0.ldcInt hx hown (mvT hZ (w20 hw)) (g := (mkF m 34 #[vi p0] [(.int p0)])) rfl (hb hby d54) _ ?_
    refine t_icmpYes (pc := 36) 42 X0.here hx (hb hby d55) (flt hp4).2.1 (by decide) (by decide) ?_
    refine t_iloadN 43 X0.here hx (hb hby d58) rfl rfl ?_
    refine X0.ldcInt hx hown (mvT hZ (w21 hw)) (g := (mkF m 43 #[vi p0] [(.int p0)])) rfl (hb hby d59) _ ?_
    refine t_icmpYes (pc := 45) 51 X0.here hx (hb hby d60) (flt hp5).2.1 (by decide) (by decide) ?_
    refine t_iloadN 52 X0.here hx (hb hby d63) rfl rfl ?_
    refine X0.ldcInt hx hown (mvT hZ (w22 hw)) (g := (mkF m 52 #[vi p0] [(.int p0)])) rfl (hb hby d64) _ ?_
    refine t_icmpYes (pc := 54) 60 X0.here hx (hb hby d65) (flt hp6).2.1 (by decide) (by decide) ?_
    refine t_sipush 63 (r := 128) X0.here hx (hb hby d68) (by decide) rfl ?_
    exact retI X0 hx hret (hb hby d69) hr
def w3 (hw : HW Z a0) := ow 3 hw rfl
def w6 (hw : HW Z a0) := ow 6 hw rfl
def w5 (hw : HW Z a0) := ow 5 hw rfl
theorem pd_0 : parseMethodDescriptor "(D)I" = some ⟨[.double], some .int⟩ := by decide +kernel
def w4 (hw : HW Z a0) := ow 4 hw rfl
def Q_law (n0 : Nat) (v : Option Value) (L : List Loc) : Prop := v = some (.int 1) ∧ Fr n0 L
theorem ef_law_0 (p0 p1 : Int32) (m : MethodId) : entryFrame m #[(.int p0), (.int p1)] maxLocals = mkF m 0 #[.val (.int p0), .val (.int p1), .unset, .unset, .unset, .unset] [] := by first | (simp [entryFrame, mkF, argsToLocals, Value.category, maxLocals]; done) | rfl
set_option maxRecDepth 65536 in
set_option maxHeartbeats 40000000 in
theorem law_0 (l : Launch) (Z : State) (a0 : Array Value) (hw : HW Z a0) (ws : List Jvm.Cond) (p0 p1 : Int32) (st_SIZES st_SHARES : Addr) (k_st_SIZES k_st_SHARES : ClassId) (h0 : Heap) (n0 : Nat) (Z0 : n0 ≤ h0.size) (hm : p1 &&& (3 : Int32) = (0 : Int32)) (S_SIZES : Sta Z Z.heap "com/example/bourse/bourse/workload/Model" "SIZES" "[I" (.ref st_SIZES)) (V_st_SIZES : Arv Z h0 st_SIZES k_st_SIZES .int 8 [(.int 1), (.int 2), (.int 4), (.int 8), (.int 16), (.int 32), (.int 64), (.int 128)] z0) (S_SHARES : Sta Z Z.heap "com/example/bourse/bourse/workload/Model" "SHARES" "[D" (.ref st_SHARES)) (V_st_SHARES : Arv Z h0 st_SHARES k_st_SHARES .double 8 [(.double (4598557124793677434 : UInt64)), (.double (4591942237660995650 : UInt64)), (.double (4594406607377092785 : UInt64)), (.double (4593080747646794911 : UInt64)), (.double (4592172821961917019 : UInt64)), (.double (4595552323122295839 : UInt64)), (.double (4589578748576551613 : UInt64)), (.double (4580268907426851324 : UInt64))] (.double (FP.l2d (0 : Int64)))) (O0 : Old Z n0 h0) :
    MetFree l x (head1 (Jvm.Cond.code x code maxLocals ret :: ws) room_1) (fun a U => a = #[(.int p0), (.int p1)] ∧ Z.Warmed39 U.vm ∧ U.heap = h0) (fun _ _ _ _ _ => True) (fun _ U o U' => ∃ v L, o = .returned v ∧ Q_law n0 v L ∧ FrameEnd U o U' L 0 0) := by
  refine own_law (y := x) (k := 0) (n := 0) (plainFor_of_name pn_ModelProcsPinLaw99) (ef_law_0 p0 p1) (by decide) (by decide) ?_
  intro p e s m below meth c s₁ hx hby hml hown hnm hret hZ hh e0 X0
  have N0 := Fr.nil n0
  obtain ⟨_, T1, L1, X1, hQ1, st1⟩ := own_static X0 hx hZ hown (w3 hw) (w4 hw) (w5 hw) (w6 hw) (by decide) (r_procs0 l Z a0 hw [] st_SIZES st_SHARES (FP.l2d (0 : Int64)) k_st_SIZES k_st_SHARES h0 n0 Z0 S_SIZES O0 V_st_SIZES S_SHARES V_st_SHARES (by decide +kernel)) e0 (W := 0) (by decide) (g := (mkF m 9 #[vi p0, vi p1, vi 0, .unset, .unset, .unset] [(.double (FP.l2d (0 : Int64)))])) rfl (by rw [hml]; rfl) (argsL := [(.double (FP.l2d (0 : Int64)))]) (rest := []) (lenOf pd_0 rfl) rfl rfl (own_wr rfl rfl) (hb hby at_9)
  obtain ⟨rfl, N1q, e1⟩ := hQ1
  have N1 := Fr.app N0 N1q
  refine ⟨T1, _, some (.int 1), X1, (fun h => by cases h <;> rfl), ?_, fun fs hr => ?_⟩
  · show Q_law n0 _ _
    exact ⟨rfl, N1⟩
  · refine t_iloadN 1 X0.here hx (hb hby at_0) rfl rfl ?_
    refine t_iconst 2 (r := 3) X0.here hx (hb hby at_1) (by decide) rfl ?_
    refine t_iand 3 (r := 0) X0.here hx (hb hby at_2) hm rfl ?_
    refine t_istoreN (pc' := 4) (L' := #[vi p0, vi p1, vi 0, .unset, .unset, .unset]) X0.here hx (hb hby at_3) rfl rfl ?_
    refine t_iloadN 5 X0.here hx (hb hby at_4) rfl rfl ?_
    refine t_ifNo 8 X0.here hx (hb hby at_5) (by decide) rfl ?_
    refine t_dconst0 9 (r := (FP.l2d (0 : Int64))) X0.here hx (hb hby at_8) own_dconst0 rfl ?_
    refine st1 _ ?_
    refine t_iconst 13 (r := 1) X1.here hx (hb hby at_12) (by decide) rfl ?_
    refine t_icmpNo 16 X1.here hx (hb hby at_13) (by decide) rfl ?_
    refine t_iconst 17 (r := 1) X1.here hx (hb hby at_16) (by decide) rfl ?_
    refine t_goto (pc := 17) 21 X1.here hx (hb hby at_17) (by decide) (by decide) ?_
    exact retN X1 hx (t := .boolean) hret (by simp) (hb hby at_21) hr
def w16 (hw : HW Z a0) := ow 16 hw rfl
theorem ef_law_1 (p0 p1 : Int32) (m : MethodId) : entryFrame m #[(.int p0), (.int p1)] maxLocals = mkF m 0 #[.val (.int p0), .val (.int p1), .unset, .unset, .unset, .unset] [] := by first | (simp [entryFrame, mkF, argsToLocals, Value.category, maxLocals]; done) | rfl
set_option maxRecDepth 65536 in
set_option maxHeartbeats 40000000 in
theorem law_1 (l : Launch) (Z : State) (a0 : Array Value) (hw : HW Z a0) (ws : List Jvm.Cond) (p0 p1 : Int32) (st_SIZES st_SHARES : Addr) (k_st_SIZES k_st_SHARES : ClassId) (h0 : Heap) (n0 : Nat) (Z0 : n0 ≤ h0.size) (hm : p1 &&& (3 : Int32) = (1 : Int32)) (S_SIZES : Sta Z Z.heap "com/example/bourse/bourse/workload/Model" "SIZES" "[I" (.ref st_SIZES)) (V_st_SIZES : Arv Z h0 st_SIZES k_st_SIZES .int 8 [(.int 1), (.int 2), (.int 4), (.int 8), (.int 16), (.int 32), (.int 64), (.int 128)] z0) (S_SHARES : Sta Z Z.heap "com/example/bourse/bourse/workload/Model" "SHARES" "[D" (.ref st_SHARES)) (V_st_SHARES : Arv Z h0 st_SHARES k_st_SHARES .double 8 [(.double (4598557124793677434 : UInt64)), (.double (4591942237660995650 : UInt64)), (.double (4594406607377092785 : UInt64)), (.double (4593080747646794911 : UInt64)), (.double (4592172821961917019 : UInt64)), (.double (4595552323122295839 : UInt64)), (.double (4589578748576551613 : UInt64)), (.double (4580268907426851324 : UInt64))] (.double (FP.l2d (0 : Int64)))) (O0 : Old Z n0 h0) :
    MetFree l x (head1 (Jvm.Cond.code x code maxLocals ret :: ws) room_1) (fun a U => a = #[(.int p0), (.int p1)] ∧ Z.Warmed39 U.vm ∧ U.heap = h0) (fun _ _ _ _ _ => True) (fun _ U o U' => ∃ v L, o = .returned v ∧ Q_law n0 v L ∧ FrameEnd U o U' L 0 0) := by
  refine own_law (y := x) (k := 0) (n := 0) (plainFor_of_name pn_ModelProcsPinLaw99) (ef_law_1 p0 p1) (by decide) (by decide) ?_
  intro p e s m below meth c s₁ hx hby hml hown hnm hret hZ hh e0 X0
  have N0 := Fr.nil n0
  obtain ⟨_, T1, L1, X1, hQ1, st1⟩ := own_static X0 hx hZ hown (w3 hw) (w4 hw) (w5 hw) (w6 hw) (by decide) (r_procs7 l Z a0 hw [] st_SIZES st_SHARES (4607182418800017407 : UInt64) k_st_SIZES k_st_SHARES h0 n0 Z0 S_SIZES O0 V_st_SIZES S_SHARES V_st_SHARES (by decide +kernel) (by decide +kernel) (by decide +kernel) (by decide +kernel) (by decide +kernel) (by decide +kernel) (by decide +kernel)) e0 (W := 0) (by decide) (g := (mkF m 30 #[vi p0, vi p1, vi 1, .unset, .unset, .unset] [(.double (4607182418800017407 : UInt64))])) rfl (by rw [hml]; rfl) (argsL := [(.double (4607182418800017407 : UInt64))]) (rest := []) (lenOf pd_0 rfl) rfl rfl (own_wr rfl rfl) (hb hby at_30)
  obtain ⟨rfl, N1q, e1⟩ := hQ1
  have N1 := Fr.app N0 N1q
  refine ⟨T1, _, some (.int 1), X1, (fun h => by cases h <;> rfl), ?_, fun fs hr => ?_⟩
  · show Q_law n0 _ _
    exact ⟨rfl, N1⟩
  · refine t_iloadN 1 X0.here hx (hb hby at_0) rfl rfl ?_
    refine t_iconst 2 (r := 3) X0.here hx (hb hby at_1) (by decide) rfl ?_
    refine t_iand 3 (r := 1) X0.here hx (hb hby at_2) hm rfl ?_
    refine t_istoreN (pc' := 4) (L' := #[vi p0, vi p1, vi 1, .unset, .unset, .unset]) X0.here hx (hb hby at_3) rfl rfl ?_
    refine t_iloadN 5 X0.here hx (hb hby at_4) rfl rfl ?_
    refine t_ifYes (pc := 5) 22 X0.here hx (hb hby at_5) (by decide) (by decide) (by decide) ?_
    refine t_iloadN 23 X0.here hx (hb hby at_22) rfl rfl ?_
    refine t_iconst 24 (r := 1) X0.here hx (hb hby at_23) (by decide) rfl ?_
    refine t_icmpNo 27 X0.here hx (hb hby at_24) (by decide) rfl ?_
    refine X0.ldc2DoubleC hx hown (mvT hZ (w16 hw)) (g := (mkF m 27 #[vi p0, vi p1, vi 1, .unset, .unset, .unset] [])) rfl (hb hby at_27) _ ?_
    refine st1 _ ?_
    refine t_sipush 36 (r := 128) X1.here hx (hb hby at_33) (by decide) rfl ?_
    refine t_icmpNo 39 X1.here hx (hb hby at_36) (by decide) rfl ?_
    refine t_iconst 40 (r := 1) X1.here hx (hb hby at_39) (by decide) rfl ?_
    refine t_goto (pc := 40) 44 X1.here hx (hb hby at_40) (by decide) (by decide) ?_
    exact retN X1 hx (t := .boolean) hret (by simp) (hb hby at_44) hr
def w0 (hw : HW Z a0) := ow 0 hw rfl
def w1 (hw : HW Z a0) := ow 1 hw rfl
def w2 (hw : HW Z a0) := ow 2 hw rfl
def w11 (hw : HW Z a0) := ow 11 hw rfl
def w14 (hw : HW Z a0) := ow 14 hw rfl
def w13 (hw : HW Z a0) := ow 13 hw rfl
theorem pd_1 : parseMethodDescriptor "(I)I" = some ⟨[.int], some .int⟩ := by decide +kernel
def w12 (hw : HW Z a0) := ow 12 hw rfl
theorem ef_law_2_0 (p0 p1 : Int32) (m : MethodId) : entryFrame m #[(.int p0), (.int p1)] maxLocals = mkF m 0 #[.val (.int p0), .val (.int p1), .unset, .unset, .unset, .unset] [] := by first | (simp [entryFrame, mkF, argsToLocals, Value.category, maxLocals]; done) | rfl
set_option maxRecDepth 65536 in
set_option maxHeartbeats 40000000 in
theorem law_2_0 (l : Launch) (Z : State) (a0 : Array Value) (hw : HW Z a0) (ws : List Jvm.Cond) (p0 p1 : Int32) (st_SIZES st_SHARES : Addr) (k_st_SIZES k_st_SHARES : ClassId) (h0 : Heap) (n0 : Nat) (Z0 : n0 ≤ h0.size) (hm : p1 &&& (3 : Int32) = (2 : Int32)) (hhi : ((p0 &&& (2147483647 : Int32)) - ((p0 &&& (2147483647 : Int32)) / (100000000 : Int32)) * (100000000 : Int32)) < (27120000 : Int32)) (S_SIZES : Sta Z Z.heap "com/example/bourse/bourse/workload/Model" "SIZES" "[I" (.ref st_SIZES)) (V_st_SIZES : Arv Z h0 st_SIZES k_st_SIZES .int 8 [(.int 1), (.int 2), (.int 4), (.int 8), (.int 16), (.int 32), (.int 64), (.int 128)] z0) (S_SHARES : Sta Z Z.heap "com/example/bourse/bourse/workload/Model" "SHARES" "[D" (.ref st_SHARES)) (V_st_SHARES : Arv Z h0 st_SHARES k_st_SHARES .double 8 [(.double (4598557124793677434 : UInt64)), (.double (4591942237660995650 : UInt64)), (.double (4594406607377092785 : UInt64)), (.double (4593080747646794911 : UInt64)), (.double (4592172821961917019 : UInt64)), (.double (4595552323122295839 : UInt64)), (.double (4589578748576551613 : UInt64)), (.double (4580268907426851324 : UInt64))] (.double (FP.l2d (0 : Int64)))) (O0 : Old Z n0 h0) :
    MetFree l x (head1 (Jvm.Cond.code x code maxLocals ret :: ws) room_1) (fun a U => a = #[(.int p0), (.int p1)] ∧ Z.Warmed39 U.vm ∧ U.heap = h0) (fun _ _ _ _ _ => True) (fun _ U o U' => ∃ v L, o = .returned v ∧ Q_law n0 v L ∧ FrameEnd U o U' L 0 0) := by
  refine own_law (y := x) (k := 0) (n := 0) (plainFor_of_name pn_ModelProcsPinLaw99) (ef_law_2_0 p0 p1) (by decide) (by decide) ?_
  intro p e s m below meth c s₁ hx hby hml hown hnm hret hZ hh e0 X0
  have N0 := Fr.nil n0
  obtain ⟨k, hk⟩ : ∃ z, z = ((p0 &&& (2147483647 : Int32)) - ((p0 &&& (2147483647 : Int32)) / (100000000 : Int32)) * (100000000 : Int32)) := ⟨_, rfl⟩
  have hk0 : 0 ≤ k.toInt := by rw [hk]; exact (own_rem8 p0).1
  have hk1 : k.toInt < 100000000 := by rw [hk]; exact (own_rem8 p0).2
  have hhi' : k < (27120000 : Int32) := by rw [hk]; exact hhi
  obtain ⟨_, T1, L1, X1, hQ1, st1⟩ := own_static X0 hx hZ hown (w3 hw) (w4 hw) (w5 hw) (w6 hw) (by decide) (r_procs0 l Z a0 hw [] st_SIZES st_SHARES (FP.ddiv (FP.l2d ((((2 : Int32) * k) + (1 : Int32)).toInt64)) (4730986895511650304 : UInt64)) k_st_SIZES k_st_SHARES h0 n0 Z0 S_SIZES O0 V_st_SIZES S_SHARES V_st_SHARES (own_lt0 hk0 hk1 (own_lt hhi' (by decide)))) e0 (W := 0) (by decide) (g := (mkF m 67 #[vi p0, vi p1, vi 2, vi k, .val (.double (FP.ddiv (FP.l2d ((((2 : Int32) * k) + (1 : Int32)).toInt64)) (4730986895511650304 : UInt64))), .second] [(.double (FP.ddiv (FP.l2d ((((2 : Int32) * k) + (1 : Int32)).toInt64)) (4730986895511650304 : UInt64)))])) rfl (by rw [hml]; rfl) (argsL := [(.double (FP.ddiv (FP.l2d ((((2 : Int32) * k) + (1 : Int32)).toInt64)) (4730986895511650304 : UInt64)))]) (rest := []) (lenOf pd_0 rfl) rfl rfl (own_wr rfl rfl) (hb hby at_67)
  obtain ⟨rfl, N1q, e1⟩ := hQ1
  have N1 := Fr.app N0 N1q
  obtain ⟨_, T2, L2, X2, hQ2, st2⟩ := own_static X1 hx hZ hown (w11 hw) (w12 hw) (w13 hw) (w14 hw) (by decide) (r_exp0 l Z a0 hw [] k h0 n0 Z0 (own_lt hhi' (by decide))) e1 (W := 1) (by decide) (g := (mkF m 71 #[vi p0, vi p1, vi 2, vi k, .val (.double (FP.ddiv (FP.l2d ((((2 : Int32) * k) + (1 : Int32)).toInt64)) (4730986895511650304 : UInt64))), .second] [(.int k), (.int 1)])) rfl (by rw [hml]; rfl) (argsL := [(.int k)]) (rest := [(.int 1)]) (lenOf pd_1 rfl) rfl rfl (own_wr rfl rfl) (hb hby at_71)
  obtain ⟨rfl, N2q, e2⟩ := hQ2
  have N2 := Fr.app N1 N2q
  refine ⟨T2, _, some (.int 1), X2, (fun h => by cases h <;> rfl), ?_, fun fs hr => ?_⟩
  · show Q_law n0 _ _
    exact ⟨rfl, N2⟩
  · refine t_iloadN 1 X0.here hx (hb hby at_0) rfl rfl ?_
    refine t_iconst 2 (r := 3) X0.here hx (hb hby at_1) (by decide) rfl ?_
    refine t_iand 3 (r := 2) X0.here hx (hb hby at_2) hm rfl ?_
    refine t_istoreN (pc' := 4) (L' := #[vi p0, vi p1, vi 2, .unset, .unset, .unset]) X0.here hx (hb hby at_3) rfl rfl ?_
    refine t_iloadN 5 X0.here hx (hb hby at_4) rfl rfl ?_
    refine t_ifYes (pc := 5) 22 X0.here hx (hb hby at_5) (by decide) (by decide) (by decide) ?_
    refine t_iloadN 23 X0.here hx (hb hby at_22) rfl rfl ?_
    refine t_iconst 24 (r := 1) X0.here hx (hb hby at_23) (by decide) rfl ?_
    refine t_icmpYes (pc := 24) 45 X0.here hx (hb hby at_24) (by decide) (by decide) (by decide) ?_
    refine t_iloadN 46 X0.here hx (hb hby at_45) rfl rfl ?_
    refine X0.ldcInt hx hown (mvT hZ (w0 hw)) (g := (mkF m 46 #[vi p0, vi p1, vi 2, .unset, .unset, .unset] [(.int p0)])) rfl (hb hby at_46) _ ?_
    refine t_iand 49 X0.here hx (hb hby at_48) rfl rfl ?_
    refine X0.ldcInt hx hown (mvT hZ (w1 hw)) (g := (mkF m 49 #[vi p0, vi p1, vi 2, .unset, .unset, .unset] [(.int (p0 &&& (2147483647 : Int32)))])) rfl (hb hby at_49) _ ?_
    refine t_irem 52 (r := k) X0.here hx (hb hby at_51) (by decide) hk.symm rfl ?_
    refine t_istoreN (pc' := 53) (L' := #[vi p0, vi p1, vi 2, vi k, .unset, .unset]) X0.here hx (hb hby at_52) rfl rfl ?_
    refine t_iconst 54 (r := 2) X0.here hx (hb hby at_53) (by decide) rfl ?_
    refine t_iloadN 55 X0.here hx (hb hby at_54) rfl rfl ?_
    refine t_imul 56 X0.here hx (hb hby at_55) rfl rfl ?_
    refine t_iconst 57 (r := 1) X0.here hx (hb hby at_56) (by decide) rfl ?_
    refine t_iadd 58 X0.here hx (hb hby at_57) rfl rfl ?_
    refine t_i2d 59 (r := (FP.l2d ((((2 : Int32) * k) + (1 : Int32)).toInt64))) X0.here hx (hb hby at_58) (i2d_w _) rfl ?_
    refine X0.ldc2DoubleC hx hown (mvT hZ (w2 hw)) (g := (mkF m 59 #[vi p0, vi p1, vi 2, vi k, .unset, .unset] [(.double (FP.l2d ((((2 : Int32) * k) + (1 : Int32)).toInt64)))])) rfl (hb hby at_59) _ ?_
    refine t_ddiv 63 (r := (FP.ddiv (FP.l2d ((((2 : Int32) * k) + (1 : Int32)).toInt64)) (4730986895511650304 : UInt64))) X0.here hx (hb hby at_62) (Jvm.Free.Fl.ddiv_out (Jvm.Free.Fl.l2d_fin _).noNaN (by unfold Jvm.Free.Fl.Fin64; decide) (by unfold Jvm.Free.Fl.Nz64; decide)) rfl rfl ?_
    refine t_dstore (pc' := 65) (L' := #[vi p0, vi p1, vi 2, vi k, .val (.double (FP.ddiv (FP.l2d ((((2 : Int32) * k) + (1 : Int32)).toInt64)) (4730986895511650304 : UInt64))), .second]) X0.here hx (hb hby at_63) rfl rfl ?_
    refine t_dload 67 X0.here hx (hb hby at_65) rfl rfl ?_
    refine st1 _ ?_
    refine t_iloadN 71 X1.here hx (hb hby at_70) rfl rfl ?_
    refine st2 _ ?_
    refine t_icmpNo 77 X2.here hx (hb hby at_74) (by decide) rfl ?_
    refine t_iconst 78 (r := 1) X2.here hx (hb hby at_77) (by decide) rfl ?_
    refine t_goto (pc := 78) 82 X2.here hx (hb hby at_78) (by decide) (by decide) ?_
    exact retN X2 hx (t := .boolean) hret (by simp) (hb hby at_82) hr
theorem ef_law_2_1 (p0 p1 : Int32) (m : MethodId) : entryFrame m #[(.int p0), (.int p1)] maxLocals = mkF m 0 #[.val (.int p0), .val (.int p1), .unset, .unset, .unset, .unset] [] := by first | (simp [entryFrame, mkF, argsToLocals, Value.category, maxLocals]; done) | rfl
set_option maxRecDepth 65536 in
set_option maxHeartbeats 40000000 in
theorem law_2_1 (l : Launch) (Z : State) (a0 : Array Value) (hw : HW Z a0) (ws : List Jvm.Cond) (p0 p1 : Int32) (st_SIZES st_SHARES : Addr) (k_st_SIZES k_st_SHARES : ClassId) (h0 : Heap) (n0 : Nat) (Z0 : n0 ≤ h0.size) (hm : p1 &&& (3 : Int32) = (2 : Int32)) (hlo : ¬ (((p0 &&& (2147483647 : Int32)) - ((p0 &&& (2147483647 : Int32)) / (100000000 : Int32)) * (100000000 : Int32)) < (27120000 : Int32))) (hhi : ((p0 &&& (2147483647 : Int32)) - ((p0 &&& (2147483647 : Int32)) / (100000000 : Int32)) * (100000000 : Int32)) < (37220000 : Int32)) (S_SIZES : Sta Z Z.heap "com/example/bourse/bourse/workload/Model" "SIZES" "[I" (.ref st_SIZES)) (V_st_SIZES : Arv Z h0 st_SIZES k_st_SIZES .int 8 [(.int 1), (.int 2), (.int 4), (.int 8), (.int 16), (.int 32), (.int 64), (.int 128)] z0) (S_SHARES : Sta Z Z.heap "com/example/bourse/bourse/workload/Model" "SHARES" "[D" (.ref st_SHARES)) (V_st_SHARES : Arv Z h0 st_SHARES k_st_SHARES .double 8 [(.double (4598557124793677434 : UInt64)), (.double (4591942237660995650 : UInt64)), (.double (4594406607377092785 : UInt64)), (.double (4593080747646794911 : UInt64)), (.double (4592172821961917019 : UInt64)), (.double (4595552323122295839 : UInt64)), (.double (4589578748576551613 : UInt64)), (.double (4580268907426851324 : UInt64))] (.double (FP.l2d (0 : Int64)))) (O0 : Old Z n0 h0) :
    MetFree l x (head1 (Jvm.Cond.code x code maxLocals ret :: ws) room_1) (fun a U => a = #[(.int p0), (.int p1)] ∧ Z.Warmed39 U.vm ∧ U.heap = h0) (fun _ _ _ _ _ => True) (fun _ U o U' => ∃ v L, o = .returned v ∧ Q_law n0 v L ∧ FrameEnd U o U' L 0 0) := by
  refine own_law (y := x) (k := 0) (n := 0) (plainFor_of_name pn_ModelProcsPinLaw99) (ef_law_2_1 p0 p1) (by decide) (by decide) ?_
  intro p e s m below meth c s₁ hx hby hml hown hnm hret hZ hh e0 X0
  have N0 := Fr.nil n0
  obtain ⟨k, hk⟩ : ∃ z, z = ((p0 &&& (2147483647 : Int32)) - ((p0 &&& (2147483647 : Int32)) / (100000000 : Int32)) * (100000000 : Int32)) := ⟨_, rfl⟩
  have hk0 : 0 ≤ k.toInt := by rw [hk]; exact (own_rem8 p0).1
  have hk1 : k.toInt < 100000000 := by rw [hk]; exact (own_rem8 p0).2
  have hlo' : ¬ (k < (27120000 : Int32)) := by rw [hk]; exact hlo
  have hhi' : k < (37220000 : Int32) := by rw [hk]; exact hhi
  obtain ⟨_, T1, L1, X1, hQ1, st1⟩ := own_static X0 hx hZ hown (w3 hw) (w4 hw) (w5 hw) (w6 hw) (by decide) (r_procs1 l Z a0 hw [] st_SIZES st_SHARES (FP.ddiv (FP.l2d ((((2 : Int32) * k) + (1 : Int32)).toInt64)) (4730986895511650304 : UInt64)) k_st_SIZES k_st_SHARES h0 n0 Z0 S_SIZES O0 V_st_SIZES S_SHARES V_st_SHARES (own_ge0 hk0 hk1 (own_nlt hlo' (by decide))) (own_lt1 hk0 hk1 (own_lt hhi' (by decide)))) e0 (W := 0) (by decide) (g := (mkF m 67 #[vi p0, vi p1, vi 2, vi k, .val (.double (FP.ddiv (FP.l2d ((((2 : Int32) * k) + (1 : Int32)).toInt64)) (4730986895511650304 : UInt64))), .second] [(.double (FP.ddiv (FP.l2d ((((2 : Int32) * k) + (1 : Int32)).toInt64)) (4730986895511650304 : UInt64)))])) rfl (by rw [hml]; rfl) (argsL := [(.double (FP.ddiv (FP.l2d ((((2 : Int32) * k) + (1 : Int32)).toInt64)) (4730986895511650304 : UInt64)))]) (rest := []) (lenOf pd_0 rfl) rfl rfl (own_wr rfl rfl) (hb hby at_67)
  obtain ⟨rfl, N1q, e1⟩ := hQ1
  have N1 := Fr.app N0 N1q
  obtain ⟨_, T2, L2, X2, hQ2, st2⟩ := own_static X1 hx hZ hown (w11 hw) (w12 hw) (w13 hw) (w14 hw) (by decide) (r_exp1 l Z a0 hw [] k h0 n0 Z0 (own_nlt hlo' (by decide)) (own_lt hhi' (by decide))) e1 (W := 1) (by decide) (g := (mkF m 71 #[vi p0, vi p1, vi 2, vi k, .val (.double (FP.ddiv (FP.l2d ((((2 : Int32) * k) + (1 : Int32)).toInt64)) (4730986895511650304 : UInt64))), .second] [(.int k), (.int 2)])) rfl (by rw [hml]; rfl) (argsL := [(.int k)]) (rest := [(.int 2)]) (lenOf pd_1 rfl) rfl rfl (own_wr rfl rfl) (hb hby at_71)
  obtain ⟨rfl, N2q, e2⟩ := hQ2
  have N2 := Fr.app N1 N2q
  refine ⟨T2, _, some (.int 1), X2, (fun h => by cases h <;> rfl), ?_, fun fs hr => ?_⟩
  · show Q_law n0 _ _
    exact ⟨rfl, N2⟩
  · refine t_iloadN 1 X0.here hx (hb hby at_0) rfl rfl ?_
    refine t_iconst 2 (r := 3) X0.here hx (hb hby at_1) (by decide) rfl ?_
    refine t_iand 3 (r := 2) X0.here hx (hb hby at_2) hm rfl ?_
    refine t_istoreN (pc' := 4) (L' := #[vi p0, vi p1, vi 2, .unset, .unset, .unset]) X0.here hx (hb hby at_3) rfl rfl ?_
    refine t_iloadN 5 X0.here hx (hb hby at_4) rfl rfl ?_
    refine t_ifYes (pc := 5) 22 X0.here hx (hb hby at_5) (by decide) (by decide) (by decide) ?_
    refine t_iloadN 23 X0.here hx (hb hby at_22) rfl rfl ?_
    refine t_iconst 24 (r := 1) X0.here hx (hb hby at_23) (by decide) rfl ?_
    refine t_icmpYes (pc := 24) 45 X0.here hx (hb hby at_24) (by decide) (by decide) (by decide) ?_
    refine t_iloadN 46 X0.here hx (hb hby at_45) rfl rfl ?_
    refine X0.ldcInt hx hown (mvT hZ (w0 hw)) (g := (mkF m 46 #[vi p0, vi p1, vi 2, .unset, .unset, .unset] [(.int p0)])) rfl (hb hby at_46) _ ?_
    refine t_iand 49 X0.here hx (hb hby at_48) rfl rfl ?_
    refine X0.ldcInt hx hown (mvT hZ (w1 hw)) (g := (mkF m 49 #[vi p0, vi p1, vi 2, .unset, .unset, .unset] [(.int (p0 &&& (2147483647 : Int32)))])) rfl (hb hby at_49) _ ?_
    refine t_irem 52 (r := k) X0.here hx (hb hby at_51) (by decide) hk.symm rfl ?_
    refine t_istoreN (pc' := 53) (L' := #[vi p0, vi p1, vi 2, vi k, .unset, .unset]) X0.here hx (hb hby at_52) rfl rfl ?_
    refine t_iconst 54 (r := 2) X0.here hx (hb hby at_53) (by decide) rfl ?_
    refine t_iloadN 55 X0.here hx (hb hby at_54) rfl rfl ?_
    refine t_imul 56 X0.here hx (hb hby at_55) rfl rfl ?_
    refine t_iconst 57 (r := 1) X0.here hx (hb hby at_56) (by decide) rfl ?_
    refine t_iadd 58 X0.here hx (hb hby at_57) rfl rfl ?_
    refine t_i2d 59 (r := (FP.l2d ((((2 : Int32) * k) + (1 : Int32)).toInt64))) X0.here hx (hb hby at_58) (i2d_w _) rfl ?_
    refine X0.ldc2DoubleC hx hown (mvT hZ (w2 hw)) (g := (mkF m 59 #[vi p0, vi p1, vi 2, vi k, .unset, .unset] [(.double (FP.l2d ((((2 : Int32) * k) + (1 : Int32)).toInt64)))])) rfl (hb hby at_59) _ ?_
    refine t_ddiv 63 (r := (FP.ddiv (FP.l2d ((((2 : Int32) * k) + (1 : Int32)).toInt64)) (4730986895511650304 : UInt64))) X0.here hx (hb hby at_62) (Jvm.Free.Fl.ddiv_out (Jvm.Free.Fl.l2d_fin _).noNaN (by unfold Jvm.Free.Fl.Fin64; decide) (by unfold Jvm.Free.Fl.Nz64; decide)) rfl rfl ?_
    refine t_dstore (pc' := 65) (L' := #[vi p0, vi p1, vi 2, vi k, .val (.double (FP.ddiv (FP.l2d ((((2 : Int32) * k) + (1 : Int32)).toInt64)) (4730986895511650304 : UInt64))), .second]) X0.here hx (hb hby at_63) rfl rfl ?_
    refine t_dload 67 X0.here hx (hb hby at_65) rfl rfl ?_
    refine st1 _ ?_
    refine t_iloadN 71 X1.here hx (hb hby at_70) rfl rfl ?_
    refine st2 _ ?_
    refine t_icmpNo 77 X2.here hx (hb hby at_74) (by decide) rfl ?_
    refine t_iconst 78 (r := 1) X2.here hx (hb hby at_77) (by decide) rfl ?_
    refine t_goto (pc := 78) 82 X2.here hx (hb hby at_78) (by decide) (by decide) ?_
    exact retN X2 hx (t := .boolean) hret (by simp) (hb hby at_82) hr
theorem ef_law_2_2 (p0 p1 : Int32) (m : MethodId) : entryFrame m #[(.int p0), (.int p1)] maxLocals = mkF m 0 #[.val (.int p0), .val (.int p1), .unset, .unset, .unset, .unset] [] := by first | (simp [entryFrame, mkF, argsToLocals, Value.category, maxLocals]; done) | rfl
set_option maxRecDepth 65536 in
set_option maxHeartbeats 40000000 in
theorem law_2_2 (l : Launch) (Z : State) (a0 : Array Value) (hw : HW Z a0) (ws : List Jvm.Cond) (p0 p1 : Int32) (st_SIZES st_SHARES : Addr) (k_st_SIZES k_st_SHARES : ClassId) (h0 : Heap) (n0 : Nat) (Z0 : n0 ≤ h0.size) (hm : p1 &&& (3 : Int32) = (2 : Int32)) (hlo : ¬ (((p0 &&& (2147483647 : Int32)) - ((p0 &&& (2147483647 : Int32)) / (100000000 : Int32)) * (100000000 : Int32)) < (37220000 : Int32))) (hhi : ((p0 &&& (2147483647 : Int32)) - ((p0 &&& (2147483647 : Int32)) / (100000000 : Int32)) * (100000000 : Int32)) < (51760000 : Int32)) (S_SIZES : Sta Z Z.heap "com/example/bourse/bourse/workload/Model" "SIZES" "[I" (.ref st_SIZES)) (V_st_SIZES : Arv Z h0 st_SIZES k_st_SIZES .int 8 [(.int 1), (.int 2), (.int 4), (.int 8), (.int 16), (.int 32), (.int 64), (.int 128)] z0) (S_SHARES : Sta Z Z.heap "com/example/bourse/bourse/workload/Model" "SHARES" "[D" (.ref st_SHARES)) (V_st_SHARES : Arv Z h0 st_SHARES k_st_SHARES .double 8 [(.double (4598557124793677434 : UInt64)), (.double (4591942237660995650 : UInt64)), (.double (4594406607377092785 : UInt64)), (.double (4593080747646794911 : UInt64)), (.double (4592172821961917019 : UInt64)), (.double (4595552323122295839 : UInt64)), (.double (4589578748576551613 : UInt64)), (.double (4580268907426851324 : UInt64))] (.double (FP.l2d (0 : Int64)))) (O0 : Old Z n0 h0) :
    MetFree l x (head1 (Jvm.Cond.code x code maxLocals ret :: ws) room_1) (fun a U => a = #[(.int p0), (.int p1)] ∧ Z.Warmed39 U.vm ∧ U.heap = h0) (fun _ _ _ _ _ => True) (fun _ U o U' => ∃ v L, o = .returned v ∧ Q_law n0 v L ∧ FrameEnd U o U' L 0 0) := by
  refine own_law (y := x) (k := 0) (n := 0) (plainFor_of_name pn_ModelProcsPinLaw99) (ef_law_2_2 p0 p1) (by decide) (by decide) ?_
  intro p e s m below meth c s₁ hx hby hml hown hnm hret hZ hh e0 X0
  have N0 := Fr.nil n0
  obtain ⟨k, hk⟩ : ∃ z, z = ((p0 &&& (2147483647 : Int32)) - ((p0 &&& (2147483647 : Int32)) / (100000000 : Int32)) * (100000000 : Int32)) := ⟨_, rfl⟩
  have hk0 : 0 ≤ k.toInt := by rw [hk]; exact (own_rem8 p0).1
  have hk1 : k.toInt < 100000000 := by rw [hk]; exact (own_rem8 p0).2
  have hlo' : ¬ (k < (37220000 : Int32)) := by rw [hk]; exact hlo
  have hhi' : k < (51760000 : Int32) := by rw [hk]; exact hhi
  obtain ⟨_, T1, L1, X1, hQ1, st1⟩ := own_static X0 hx hZ hown (w3 hw) (w4 hw) (w5 hw) (w6 hw) (by decide) (r_procs2 l Z a0 hw [] st_SIZES st_SHARES (FP.ddiv (FP.l2d ((((2 : Int32) * k) + (1 : Int32)).toInt64)) (4730986895511650304 : UInt64)) k_st_SIZES k_st_SHARES h0 n0 Z0 S_SIZES O0 V_st_SIZES S_SHARES V_st_SHARES (own_ge0 hk0 hk1 (own_nlt hlo' (by decide))) (own_ge1 hk0 hk1 (own_nlt hlo' (by decide))) (own_lt2 hk0 hk1 (own_lt hhi' (by decide)))) e0 (W := 0) (by decide) (g := (mkF m 67 #[vi p0, vi p1, vi 2, vi k, .val (.double (FP.ddiv (FP.l2d ((((2 : Int32) * k) + (1 : Int32)).toInt64)) (4730986895511650304 : UInt64))), .second] [(.double (FP.ddiv (FP.l2d ((((2 : Int32) * k) + (1 : Int32)).toInt64)) (4730986895511650304 : UInt64)))])) rfl (by rw [hml]; rfl) (argsL := [(.double (FP.ddiv (FP.l2d ((((2 : Int32) * k) + (1 : Int32)).toInt64)) (4730986895511650304 : UInt64)))]) (rest := []) (lenOf pd_0 rfl) rfl rfl (own_wr rfl rfl) (hb hby at_67)
  obtain ⟨rfl, N1q, e1⟩ := hQ1
  have N1 := Fr.app N0 N1q
  obtain ⟨_, T2, L2, X2, hQ2, st2⟩ := own_static X1 hx hZ hown (w11 hw) (w12 hw) (w13 hw) (w14 hw) (by decide) (r_exp2 l Z a0 hw [] k h0 n0 Z0 (own_nlt hlo' (by decide)) (own_nlt hlo' (by decide)) (own_lt hhi' (by decide))) e1 (W := 1) (by decide) (g := (mkF m 71 #[vi p0, vi p1, vi 2, vi k, .val (.double (FP.ddiv (FP.l2d ((((2 : Int32) * k) + (1 : Int32)).toInt64)) (4730986895511650304 : UInt64))), .second] [(.int k), (.int 4)])) rfl (by rw [hml]; rfl) (argsL := [(.int k)]) (rest := [(.int 4)]) (lenOf pd_1 rfl) rfl rfl (own_wr rfl rfl) (hb hby at_71)
  obtain ⟨rfl, N2q, e2⟩ := hQ2
  have N2 := Fr.app N1 N2q
  refine ⟨T2, _, some (.int 1), X2, (fun h => by cases h <;> rfl), ?_, fun fs hr => ?_⟩
  · show Q_law n0 _ _
    exact ⟨rfl, N2⟩
  · refine t_iloadN 1 X0.here hx (hb hby at_0) rfl rfl ?_
    refine t_iconst 2 (r := 3) X0.here hx (hb hby at_1) (by decide) rfl ?_
    refine t_iand 3 (r := 2) X0.here hx (hb hby at_2) hm rfl ?_
    refine t_istoreN (pc' := 4) (L' := #[vi p0, vi p1, vi 2, .unset, .unset, .unset]) X0.here hx (hb hby at_3) rfl rfl ?_
    refine t_iloadN 5 X0.here hx (hb hby at_4) rfl rfl ?_
    refine t_ifYes (pc := 5) 22 X0.here hx (hb hby at_5) (by decide) (by decide) (by decide) ?_
    refine t_iloadN 23 X0.here hx (hb hby at_22) rfl rfl ?_
    refine t_iconst 24 (r := 1) X0.here hx (hb hby at_23) (by decide) rfl ?_
    refine t_icmpYes (pc := 24) 45 X0.here hx (hb hby at_24) (by decide) (by decide) (by decide) ?_
    refine t_iloadN 46 X0.here hx (hb hby at_45) rfl rfl ?_
    refine X0.ldcInt hx hown (mvT hZ (w0 hw)) (g := (mkF m 46 #[vi p0, vi p1, vi 2, .unset, .unset, .unset] [(.int p0)])) rfl (hb hby at_46) _ ?_
    refine t_iand 49 X0.here hx (hb hby at_48) rfl rfl ?_
    refine X0.ldcInt hx hown (mvT hZ (w1 hw)) (g := (mkF m 49 #[vi p0, vi p1, vi 2, .unset, .unset, .unset] [(.int (p0 &&& (2147483647 : Int32)))])) rfl (hb hby at_49) _ ?_
    refine t_irem 52 (r := k) X0.here hx (hb hby at_51) (by decide) hk.symm rfl ?_
    refine t_istoreN (pc' := 53) (L' := #[vi p0, vi p1, vi 2, vi k, .unset, .unset]) X0.here hx (hb hby at_52) rfl rfl ?_
    refine t_iconst 54 (r := 2) X0.here hx (hb hby at_53) (by decide) rfl ?_
    refine t_iloadN 55 X0.here hx (hb hby at_54) rfl rfl ?_
    refine t_imul 56 X0.here hx (hb hby at_55) rfl rfl ?_
    refine t_iconst 57 (r := 1) X0.here hx (hb hby at_56) (by decide) rfl ?_
    refine t_iadd 58 X0.here hx (hb hby at_57) rfl rfl ?_
    refine t_i2d 59 (r := (FP.l2d ((((2 : Int32) * k) + (1 : Int32)).toInt64))) X0.here hx (hb hby at_58) (i2d_w _) rfl ?_
    refine X0.ldc2DoubleC hx hown (mvT hZ (w2 hw)) (g := (mkF m 59 #[vi p0, vi p1, vi 2, vi k, .unset, .unset] [(.double (FP.l2d ((((2 : Int32) * k) + (1 : Int32)).toInt64)))])) rfl (hb hby at_59) _ ?_
    refine t_ddiv 63 (r := (FP.ddiv (FP.l2d ((((2 : Int32) * k) + (1 : Int32)).toInt64)) (4730986895511650304 : UInt64))) X0.here hx (hb hby at_62) (Jvm.Free.Fl.ddiv_out (Jvm.Free.Fl.l2d_fin _).noNaN (by unfold Jvm.Free.Fl.Fin64; decide) (by unfold Jvm.Free.Fl.Nz64; decide)) rfl rfl ?_
    refine t_dstore (pc' := 65) (L' := #[vi p0, vi p1, vi 2, vi k, .val (.double (FP.ddiv (FP.l2d ((((2 : Int32) * k) + (1 : Int32)).toInt64)) (4730986895511650304 : UInt64))), .second]) X0.here hx (hb hby at_63) rfl rfl ?_
    refine t_dload 67 X0.here hx (hb hby at_65) rfl rfl ?_
    refine st1 _ ?_
    refine t_iloadN 71 X1.here hx (hb hby at_70) rfl rfl ?_
    refine st2 _ ?_
    refine t_icmpNo 77 X2.here hx (hb hby at_74) (by decide) rfl ?_
    refine t_iconst 78 (r := 1) X2.here hx (hb hby at_77) (by decide) rfl ?_
    refine t_goto (pc := 78) 82 X2.here hx (hb hby at_78) (by decide) (by decide) ?_
    exact retN X2 hx (t := .boolean) hret (by simp) (hb hby at_82) hr
theorem ef_law_2_3 (p0 p1 : Int32) (m : MethodId) : entryFrame m #[(.int p0), (.int p1)] maxLocals = mkF m 0 #[.val (.int p0), .val (.int p1), .unset, .unset, .unset, .unset] [] := by first | (simp [entryFrame, mkF, argsToLocals, Value.category, maxLocals]; done) | rfl
set_option maxRecDepth 65536 in
set_option maxHeartbeats 40000000 in
theorem law_2_3 (l : Launch) (Z : State) (a0 : Array Value) (hw : HW Z a0) (ws : List Jvm.Cond) (p0 p1 : Int32) (st_SIZES st_SHARES : Addr) (k_st_SIZES k_st_SHARES : ClassId) (h0 : Heap) (n0 : Nat) (Z0 : n0 ≤ h0.size) (hm : p1 &&& (3 : Int32) = (2 : Int32)) (hlo : ¬ (((p0 &&& (2147483647 : Int32)) - ((p0 &&& (2147483647 : Int32)) / (100000000 : Int32)) * (100000000 : Int32)) < (51760000 : Int32))) (hhi : ((p0 &&& (2147483647 : Int32)) - ((p0 &&& (2147483647 : Int32)) / (100000000 : Int32)) * (100000000 : Int32)) < (63440000 : Int32)) (S_SIZES : Sta Z Z.heap "com/example/bourse/bourse/workload/Model" "SIZES" "[I" (.ref st_SIZES)) (V_st_SIZES : Arv Z h0 st_SIZES k_st_SIZES .int 8 [(.int 1), (.int 2), (.int 4), (.int 8), (.int 16), (.int 32), (.int 64), (.int 128)] z0) (S_SHARES : Sta Z Z.heap "com/example/bourse/bourse/workload/Model" "SHARES" "[D" (.ref st_SHARES)) (V_st_SHARES : Arv Z h0 st_SHARES k_st_SHARES .double 8 [(.double (4598557124793677434 : UInt64)), (.double (4591942237660995650 : UInt64)), (.double (4594406607377092785 : UInt64)), (.double (4593080747646794911 : UInt64)), (.double (4592172821961917019 : UInt64)), (.double (4595552323122295839 : UInt64)), (.double (4589578748576551613 : UInt64)), (.double (4580268907426851324 : UInt64))] (.double (FP.l2d (0 : Int64)))) (O0 : Old Z n0 h0) :
    MetFree l x (head1 (Jvm.Cond.code x code maxLocals ret :: ws) room_1) (fun a U => a = #[(.int p0), (.int p1)] ∧ Z.Warmed39 U.vm ∧ U.heap = h0) (fun _ _ _ _ _ => True) (fun _ U o U' => ∃ v L, o = .returned v ∧ Q_law n0 v L ∧ FrameEnd U o U' L 0 0) := by
  refine own_law (y := x) (k := 0) (n := 0) (plainFor_of_name pn_ModelProcsPinLaw99) (ef_law_2_3 p0 p1) (by decide) (by decide) ?_
  intro p e s m below meth c s₁ hx hby hml hown hnm hret hZ hh e0 X0
  have N0 := Fr.nil n0
  obtain ⟨k, hk⟩ : ∃ z, z = ((p0 &&& (2147483647 : Int32)) - ((p0 &&& (2147483647 : Int32)) / (100000000 : Int32)) * (100000000 : Int32)) := ⟨_, rfl⟩
  have hk0 : 0 ≤ k.toInt := by rw [hk]; exact (own_rem8 p0).1
  have hk1 : k.toInt < 100000000 := by rw [hk]; exact (own_rem8 p0).2
  have hlo' : ¬ (k < (51760000 : Int32)) := by rw [hk]; exact hlo
  have hhi' : k < (63440000 : Int32) := by rw [hk]; exact hhi
  obtain ⟨_, T1, L1, X1, hQ1, st1⟩ := own_static X0 hx hZ hown (w3 hw) (w4 hw) (w5 hw) (w6 hw) (by decide) (r_procs3 l Z a0 hw [] st_SIZES st_SHARES (FP.ddiv (FP.l2d ((((2 : Int32) * k) + (1 : Int32)).toInt64)) (4730986895511650304 : UInt64)) k_st_SIZES k_st_SHARES h0 n0 Z0 S_SIZES O0 V_st_SIZES S_SHARES V_st_SHARES (own_ge0 hk0 hk1 (own_nlt hlo' (by decide))) (own_ge1 hk0 hk1 (own_nlt hlo' (by decide))) (own_ge2 hk0 hk1 (own_nlt hlo' (by decide))) (own_lt3 hk0 hk1 (own_lt hhi' (by decide)))) e0 (W := 0) (by decide) (g := (mkF m 67 #[vi p0, vi p1, vi 2, vi k, .val (.double (FP.ddiv (FP.l2d ((((2 : Int32) * k) + (1 : Int32)).toInt64)) (4730986895511650304 : UInt64))), .second] [(.double (FP.ddiv (FP.l2d ((((2 : Int32) * k) + (1 : Int32)).toInt64)) (4730986895511650304 : UInt64)))])) rfl (by rw [hml]; rfl) (argsL := [(.double (FP.ddiv (FP.l2d ((((2 : Int32) * k) + (1 : Int32)).toInt64)) (4730986895511650304 : UInt64)))]) (rest := []) (lenOf pd_0 rfl) rfl rfl (own_wr rfl rfl) (hb hby at_67)
  obtain ⟨rfl, N1q, e1⟩ := hQ1
  have N1 := Fr.app N0 N1q
  obtain ⟨_, T2, L2, X2, hQ2, st2⟩ := own_static X1 hx hZ hown (w11 hw) (w12 hw) (w13 hw) (w14 hw) (by decide) (r_exp3 l Z a0 hw [] k h0 n0 Z0 (own_nlt hlo' (by decide)) (own_nlt hlo' (by decide)) (own_nlt hlo' (by decide)) (own_lt hhi' (by decide))) e1 (W := 1) (by decide) (g := (mkF m 71 #[vi p0, vi p1, vi 2, vi k, .val (.double (FP.ddiv (FP.l2d ((((2 : Int32) * k) + (1 : Int32)).toInt64)) (4730986895511650304 : UInt64))), .second] [(.int k), (.int 8)])) rfl (by rw [hml]; rfl) (argsL := [(.int k)]) (rest := [(.int 8)]) (lenOf pd_1 rfl) rfl rfl (own_wr rfl rfl) (hb hby at_71)
  obtain ⟨rfl, N2q, e2⟩ := hQ2
  have N2 := Fr.app N1 N2q
  refine ⟨T2, _, some (.int 1), X2, (fun h => by cases h <;> rfl), ?_, fun fs hr => ?_⟩
  · show Q_law n0 _ _
    exact ⟨rfl, N2⟩
  · refine t_iloadN 1 X0.here hx (hb hby at_0) rfl rfl ?_
    refine t_iconst 2 (r := 3) X0.here hx (hb hby at_1) (by decide) rfl ?_
    refine t_iand 3 (r := 2) X0.here hx (hb hby at_2) hm rfl ?_
    refine t_istoreN (pc' := 4) (L' := #[vi p0, vi p1, vi 2, .unset, .unset, .unset]) X0.here hx (hb hby at_3) rfl rfl ?_
    refine t_iloadN 5 X0.here hx (hb hby at_4) rfl rfl ?_
    refine t_ifYes (pc := 5) 22 X0.here hx (hb hby at_5) (by decide) (by decide) (by decide) ?_
    refine t_iloadN 23 X0.here hx (hb hby at_22) rfl rfl ?_
    refine t_iconst 24 (r := 1) X0.here hx (hb hby at_23) (by decide) rfl ?_
    refine t_icmpYes (pc := 24) 45 X0.here hx (hb hby at_24) (by decide) (by decide) (by decide) ?_
    refine t_iloadN 46 X0.here hx (hb hby at_45) rfl rfl ?_
    refine X0.ldcInt hx hown (mvT hZ (w0 hw)) (g := (mkF m 46 #[vi p0, vi p1, vi 2, .unset, .unset, .unset] [(.int p0)])) rfl (hb hby at_46) _ ?_
    refine t_iand 49 X0.here hx (hb hby at_48) rfl rfl ?_
    refine X0.ldcInt hx hown (mvT hZ (w1 hw)) (g := (mkF m 49 #[vi p0, vi p1, vi 2, .unset, .unset, .unset] [(.int (p0 &&& (2147483647 : Int32)))])) rfl (hb hby at_49) _ ?_
    refine t_irem 52 (r := k) X0.here hx (hb hby at_51) (by decide) hk.symm rfl ?_
    refine t_istoreN (pc' := 53) (L' := #[vi p0, vi p1, vi 2, vi k, .unset, .unset]) X0.here hx (hb hby at_52) rfl rfl ?_
    refine t_iconst 54 (r := 2) X0.here hx (hb hby at_53) (by decide) rfl ?_
    refine t_iloadN 55 X0.here hx (hb hby at_54) rfl rfl ?_
    refine t_imul 56 X0.here hx (hb hby at_55) rfl rfl ?_
    refine t_iconst 57 (r := 1) X0.here hx (hb hby at_56) (by decide) rfl ?_
    refine t_iadd 58 X0.here hx (hb hby at_57) rfl rfl ?_
    refine t_i2d 59 (r := (FP.l2d ((((2 : Int32) * k) + (1 : Int32)).toInt64))) X0.here hx (hb hby at_58) (i2d_w _) rfl ?_
    refine X0.ldc2DoubleC hx hown (mvT hZ (w2 hw)) (g := (mkF m 59 #[vi p0, vi p1, vi 2, vi k, .unset, .unset] [(.double (FP.l2d ((((2 : Int32) * k) + (1 : Int32)).toInt64)))])) rfl (hb hby at_59) _ ?_
    refine t_ddiv 63 (r := (FP.ddiv (FP.l2d ((((2 : Int32) * k) + (1 : Int32)).toInt64)) (4730986895511650304 : UInt64))) X0.here hx (hb hby at_62) (Jvm.Free.Fl.ddiv_out (Jvm.Free.Fl.l2d_fin _).noNaN (by unfold Jvm.Free.Fl.Fin64; decide) (by unfold Jvm.Free.Fl.Nz64; decide)) rfl rfl ?_
    refine t_dstore (pc' := 65) (L' := #[vi p0, vi p1, vi 2, vi k, .val (.double (FP.ddiv (FP.l2d ((((2 : Int32) * k) + (1 : Int32)).toInt64)) (4730986895511650304 : UInt64))), .second]) X0.here hx (hb hby at_63) rfl rfl ?_
    refine t_dload 67 X0.here hx (hb hby at_65) rfl rfl ?_
    refine st1 _ ?_
    refine t_iloadN 71 X1.here hx (hb hby at_70) rfl rfl ?_
    refine st2 _ ?_
    refine t_icmpNo 77 X2.here hx (hb hby at_74) (by decide) rfl ?_
    refine t_iconst 78 (r := 1) X2.here hx (hb hby at_77) (by decide) rfl ?_
    refine t_goto (pc := 78) 82 X2.here hx (hb hby at_78) (by decide) (by decide) ?_
    exact retN X2 hx (t := .boolean) hret (by simp) (hb hby at_82) hr
theorem ef_law_2_4 (p0 p1 : Int32) (m : MethodId) : entryFrame m #[(.int p0), (.int p1)] maxLocals = mkF m 0 #[.val (.int p0), .val (.int p1), .unset, .unset, .unset, .unset] [] := by first | (simp [entryFrame, mkF, argsToLocals, Value.category, maxLocals]; done) | rfl
set_option maxRecDepth 65536 in
set_option maxHeartbeats 40000000 in
theorem law_2_4 (l : Launch) (Z : State) (a0 : Array Value) (hw : HW Z a0) (ws : List Jvm.Cond) (p0 p1 : Int32) (st_SIZES st_SHARES : Addr) (k_st_SIZES k_st_SHARES : ClassId) (h0 : Heap) (n0 : Nat) (Z0 : n0 ≤ h0.size) (hm : p1 &&& (3 : Int32) = (2 : Int32)) (hlo : ¬ (((p0 &&& (2147483647 : Int32)) - ((p0 &&& (2147483647 : Int32)) / (100000000 : Int32)) * (100000000 : Int32)) < (63440000 : Int32))) (hhi : ((p0 &&& (2147483647 : Int32)) - ((p0 &&& (2147483647 : Int32)) / (100000000 : Int32)) * (100000000 : Int32)) < (73860000 : Int32)) (S_SIZES : Sta Z Z.heap "com/example/bourse/bourse/workload/Model" "SIZES" "[I" (.ref st_SIZES)) (V_st_SIZES : Arv Z h0 st_SIZES k_st_SIZES .int 8 [(.int 1), (.int 2), (.int 4), (.int 8), (.int 16), (.int 32), (.int 64), (.int 128)] z0) (S_SHARES : Sta Z Z.heap "com/example/bourse/bourse/workload/Model" "SHARES" "[D" (.ref st_SHARES)) (V_st_SHARES : Arv Z h0 st_SHARES k_st_SHARES .double 8 [(.double (4598557124793677434 : UInt64)), (.double (4591942237660995650 : UInt64)), (.double (4594406607377092785 : UInt64)), (.double (4593080747646794911 : UInt64)), (.double (4592172821961917019 : UInt64)), (.double (4595552323122295839 : UInt64)), (.double (4589578748576551613 : UInt64)), (.double (4580268907426851324 : UInt64))] (.double (FP.l2d (0 : Int64)))) (O0 : Old Z n0 h0) :
    MetFree l x (head1 (Jvm.Cond.code x code maxLocals ret :: ws) room_1) (fun a U => a = #[(.int p0), (.int p1)] ∧ Z.Warmed39 U.vm ∧ U.heap = h0) (fun _ _ _ _ _ => True) (fun _ U o U' => ∃ v L, o = .returned v ∧ Q_law n0 v L ∧ FrameEnd U o U' L 0 0) := by
  refine own_law (y := x) (k := 0) (n := 0) (plainFor_of_name pn_ModelProcsPinLaw99) (ef_law_2_4 p0 p1) (by decide) (by decide) ?_
  intro p e s m below meth c s₁ hx hby hml hown hnm hret hZ hh e0 X0
  have N0 := Fr.nil n0
  obtain ⟨k, hk⟩ : ∃ z, z = ((p0 &&& (2147483647 : Int32)) - ((p0 &&& (2147483647 : Int32)) / (100000000 : Int32)) * (100000000 : Int32)) := ⟨_, rfl⟩
  have hk0 : 0 ≤ k.toInt := by rw [hk]; exact (own_rem8 p0).1
  have hk1 : k.toInt < 100000000 := by rw [hk]; exact (own_rem8 p0).2
  have hlo' : ¬ (k < (63440000 : Int32)) := by rw [hk]; exact hlo
  have hhi' : k < (73860000 : Int32) := by rw [hk]; exact hhi
  obtain ⟨_, T1, L1, X1, hQ1, st1⟩ := own_static X0 hx hZ hown (w3 hw) (w4 hw) (w5 hw) (w6 hw) (by decide) (r_procs4 l Z a0 hw [] st_SIZES st_SHARES (FP.ddiv (FP.l2d ((((2 : Int32) * k) + (1 : Int32)).toInt64)) (4730986895511650304 : UInt64)) k_st_SIZES k_st_SHARES h0 n0 Z0 S_SIZES O0 V_st_SIZES S_SHARES V_st_SHARES (own_ge0 hk0 hk1 (own_nlt hlo' (by decide))) (own_ge1 hk0 hk1 (own_nlt hlo' (by decide))) (own_ge2 hk0 hk1 (own_nlt hlo' (by decide))) (own_ge3 hk0 hk1 (own_nlt hlo' (by decide))) (own_lt4 hk0 hk1 (own_lt hhi' (by decide)))) e0 (W := 0) (by decide) (g := (mkF m 67 #[vi p0, vi p1, vi 2, vi k, .val (.double (FP.ddiv (FP.l2d ((((2 : Int32) * k) + (1 : Int32)).toInt64)) (4730986895511650304 : UInt64))), .second] [(.double (FP.ddiv (FP.l2d ((((2 : Int32) * k) + (1 : Int32)).toInt64)) (4730986895511650304 : UInt64)))])) rfl (by rw [hml]; rfl) (argsL := [(.double (FP.ddiv (FP.l2d ((((2 : Int32) * k) + (1 : Int32)).toInt64)) (4730986895511650304 : UInt64)))]) (rest := []) (lenOf pd_0 rfl) rfl rfl (own_wr rfl rfl) (hb hby at_67)
  obtain ⟨rfl, N1q, e1⟩ := hQ1
  have N1 := Fr.app N0 N1q
  obtain ⟨_, T2, L2, X2, hQ2, st2⟩ := own_static X1 hx hZ hown (w11 hw) (w12 hw) (w13 hw) (w14 hw) (by decide) (r_exp4 l Z a0 hw [] k h0 n0 Z0 (own_nlt hlo' (by decide)) (own_nlt hlo' (by decide)) (own_nlt hlo' (by decide)) (own_nlt hlo' (by decide)) (own_lt hhi' (by decide))) e1 (W := 1) (by decide) (g := (mkF m 71 #[vi p0, vi p1, vi 2, vi k, .val (.double (FP.ddiv (FP.l2d ((((2 : Int32) * k) + (1 : Int32)).toInt64)) (4730986895511650304 : UInt64))), .second] [(.int k), (.int 16)])) rfl (by rw [hml]; rfl) (argsL := [(.int k)]) (rest := [(.int 16)]) (lenOf pd_1 rfl) rfl rfl (own_wr rfl rfl) (hb hby at_71)
  obtain ⟨rfl, N2q, e2⟩ := hQ2
  have N2 := Fr.app N1 N2q
  refine ⟨T2, _, some (.int 1), X2, (fun h => by cases h <;> rfl), ?_, fun fs hr => ?_⟩
  · show Q_law n0 _ _
    exact ⟨rfl, N2⟩
  · refine t_iloadN 1 X0.here hx (hb hby at_0) rfl rfl ?_
    refine t_iconst 2 (r := 3) X0.here hx (hb hby at_1) (by decide) rfl ?_
    refine t_iand 3 (r := 2) X0.here hx (hb hby at_2) hm rfl ?_
    refine t_istoreN (pc' := 4) (L' := #[vi p0, vi p1, vi 2, .unset, .unset, .unset]) X0.here hx (hb hby at_3) rfl rfl ?_
    refine t_iloadN 5 X0.here hx (hb hby at_4) rfl rfl ?_
    refine t_ifYes (pc := 5) 22 X0.here hx (hb hby at_5) (by decide) (by decide) (by decide) ?_
    refine t_iloadN 23 X0.here hx (hb hby at_22) rfl rfl ?_
    refine t_iconst 24 (r := 1) X0.here hx (hb hby at_23) (by decide) rfl ?_
    refine t_icmpYes (pc := 24) 45 X0.here hx (hb hby at_24) (by decide) (by decide) (by decide) ?_
    refine t_iloadN 46 X0.here hx (hb hby at_45) rfl rfl ?_
    refine X0.ldcInt hx hown (mvT hZ (w0 hw)) (g := (mkF m 46 #[vi p0, vi p1, vi 2, .unset, .unset, .unset] [(.int p0)])) rfl (hb hby at_46) _ ?_
    refine t_iand 49 X0.here hx (hb hby at_48) rfl rfl ?_
    refine X0.ldcInt hx hown (mvT hZ (w1 hw)) (g := (mkF m 49 #[vi p0, vi p1, vi 2, .unset, .unset, .unset] [(.int (p0 &&& (2147483647 : Int32)))])) rfl (hb hby at_49) _ ?_
    refine t_irem 52 (r := k) X0.here hx (hb hby at_51) (by decide) hk.symm rfl ?_
    refine t_istoreN (pc' := 53) (L' := #[vi p0, vi p1, vi 2, vi k, .unset, .unset]) X0.here hx (hb hby at_52) rfl rfl ?_
    refine t_iconst 54 (r := 2) X0.here hx (hb hby at_53) (by decide) rfl ?_
    refine t_iloadN 55 X0.here hx (hb hby at_54) rfl rfl ?_
    refine t_imul 56 X0.here hx (hb hby at_55) rfl rfl ?_
    refine t_iconst 57 (r := 1) X0.here hx (hb hby at_56) (by decide) rfl ?_
    refine t_iadd 58 X0.here hx (hb hby at_57) rfl rfl ?_
    refine t_i2d 59 (r := (FP.l2d ((((2 : Int32) * k) + (1 : Int32)).toInt64))) X0.here hx (hb hby at_58) (i2d_w _) rfl ?_
    refine X0.ldc2DoubleC hx hown (mvT hZ (w2 hw)) (g := (mkF m 59 #[vi p0, vi p1, vi 2, vi k, .unset, .unset] [(.double (FP.l2d ((((2 : Int32) * k) + (1 : Int32)).toInt64)))])) rfl (hb hby at_59) _ ?_
    refine t_ddiv 63 (r := (FP.ddiv (FP.l2d ((((2 : Int32) * k) + (1 : Int32)).toInt64)) (4730986895511650304 : UInt64))) X0.here hx (hb hby at_62) (Jvm.Free.Fl.ddiv_out (Jvm.Free.Fl.l2d_fin _).noNaN (by unfold Jvm.Free.Fl.Fin64; decide) (by unfold Jvm.Free.Fl.Nz64; decide)) rfl rfl ?_
    refine t_dstore (pc' := 65) (L' := #[vi p0, vi p1, vi 2, vi k, .val (.double (FP.ddiv (FP.l2d ((((2 : Int32) * k) + (1 : Int32)).toInt64)) (4730986895511650304 : UInt64))), .second]) X0.here hx (hb hby at_63) rfl rfl ?_
    refine t_dload 67 X0.here hx (hb hby at_65) rfl rfl ?_
    refine st1 _ ?_
    refine t_iloadN 71 X1.here hx (hb hby at_70) rfl rfl ?_
    refine st2 _ ?_
    refine t_icmpNo 77 X2.here hx (hb hby at_74) (by decide) rfl ?_
    refine t_iconst 78 (r := 1) X2.here hx (hb hby at_77) (by decide) rfl ?_
    refine t_goto (pc := 78) 82 X2.here hx (hb hby at_78) (by decide) (by decide) ?_
    exact retN X2 hx (t := .boolean) hret (by simp) (hb hby at_82) hr
theorem ef_law_2_5 (p0 p1 : Int32) (m : MethodId) : entryFrame m #[(.int p0), (.int p1)] maxLocals = mkF m 0 #[.val (.int p0), .val (.int p1), .unset, .unset, .unset, .unset] [] := by first | (simp [entryFrame, mkF, argsToLocals, Value.category, maxLocals]; done) | rfl
set_option maxRecDepth 65536 in
set_option maxHeartbeats 40000000 in
theorem law_2_5 (l : Launch) (Z : State) (a0 : Array Value) (hw : HW Z a0) (ws : List Jvm.Cond) (p0 p1 : Int32) (st_SIZES st_SHARES : Addr) (k_st_SIZES k_st_SHARES : ClassId) (h0 : Heap) (n0 : Nat) (Z0 : n0 ≤ h0.size) (hm : p1 &&& (3 : Int32) = (2 : Int32)) (hlo : ¬ (((p0 &&& (2147483647 : Int32)) - ((p0 &&& (2147483647 : Int32)) / (100000000 : Int32)) * (100000000 : Int32)) < (73860000 : Int32))) (hhi : ((p0 &&& (2147483647 : Int32)) - ((p0 &&& (2147483647 : Int32)) / (100000000 : Int32)) * (100000000 : Int32)) < (91580000 : Int32)) (S_SIZES : Sta Z Z.heap "com/example/bourse/bourse/workload/Model" "SIZES" "[I" (.ref st_SIZES)) (V_st_SIZES : Arv Z h0 st_SIZES k_st_SIZES .int 8 [(.int 1), (.int 2), (.int 4), (.int 8), (.int 16), (.int 32), (.int 64), (.int 128)] z0) (S_SHARES : Sta Z Z.heap "com/example/bourse/bourse/workload/Model" "SHARES" "[D" (.ref st_SHARES)) (V_st_SHARES : Arv Z h0 st_SHARES k_st_SHARES .double 8 [(.double (4598557124793677434 : UInt64)), (.double (4591942237660995650 : UInt64)), (.double (4594406607377092785 : UInt64)), (.double (4593080747646794911 : UInt64)), (.double (4592172821961917019 : UInt64)), (.double (4595552323122295839 : UInt64)), (.double (4589578748576551613 : UInt64)), (.double (4580268907426851324 : UInt64))] (.double (FP.l2d (0 : Int64)))) (O0 : Old Z n0 h0) :
    MetFree l x (head1 (Jvm.Cond.code x code maxLocals ret :: ws) room_1) (fun a U => a = #[(.int p0), (.int p1)] ∧ Z.Warmed39 U.vm ∧ U.heap = h0) (fun _ _ _ _ _ => True) (fun _ U o U' => ∃ v L, o = .returned v ∧ Q_law n0 v L ∧ FrameEnd U o U' L 0 0) := by
  refine own_law (y := x) (k := 0) (n := 0) (plainFor_of_name pn_ModelProcsPinLaw99) (ef_law_2_5 p0 p1) (by decide) (by decide) ?_
  intro p e s m below meth c s₁ hx hby hml hown hnm hret hZ hh e0 X0
  have N0 := Fr.nil n0
  obtain ⟨k, hk⟩ : ∃ z, z = ((p0 &&& (2147483647 : Int32)) - ((p0 &&& (2147483647 : Int32)) / (100000000 : Int32)) * (100000000 : Int32)) := ⟨_, rfl⟩
  have hk0 : 0 ≤ k.toInt := by rw [hk]; exact (own_rem8 p0).1
  have hk1 : k.toInt < 100000000 := by rw [hk]; exact (own_rem8 p0).2
  have hlo' : ¬ (k < (73860000 : Int32)) := by rw [hk]; exact hlo
  have hhi' : k < (91580000 : Int32) := by rw [hk]; exact hhi
  obtain ⟨_, T1, L1, X1, hQ1, st1⟩ := own_static X0 hx hZ hown (w3 hw) (w4 hw) (w5 hw) (w6 hw) (by decide) (r_procs5 l Z a0 hw [] st_SIZES st_SHARES (FP.ddiv (FP.l2d ((((2 : Int32) * k) + (1 : Int32)).toInt64)) (4730986895511650304 : UInt64)) k_st_SIZES k_st_SHARES h0 n0 Z0 S_SIZES O0 V_st_SIZES S_SHARES V_st_SHARES (own_ge0 hk0 hk1 (own_nlt hlo' (by decide))) (own_ge1 hk0 hk1 (own_nlt hlo' (by decide))) (own_ge2 hk0 hk1 (own_nlt hlo' (by decide))) (own_ge3 hk0 hk1 (own_nlt hlo' (by decide))) (own_ge4 hk0 hk1 (own_nlt hlo' (by decide))) (own_lt5 hk0 hk1 (own_lt hhi' (by decide)))) e0 (W := 0) (by decide) (g := (mkF m 67 #[vi p0, vi p1, vi 2, vi k, .val (.double (FP.ddiv (FP.l2d ((((2 : Int32) * k) + (1 : Int32)).toInt64)) (4730986895511650304 : UInt64))), .second] [(.double (FP.ddiv (FP.l2d ((((2 : Int32) * k) + (1 : Int32)).toInt64)) (4730986895511650304 : UInt64)))])) rfl (by rw [hml]; rfl) (argsL := [(.double (FP.ddiv (FP.l2d ((((2 : Int32) * k) + (1 : Int32)).toInt64)) (4730986895511650304 : UInt64)))]) (rest := []) (lenOf pd_0 rfl) rfl rfl (own_wr rfl rfl) (hb hby at_67)
  obtain ⟨rfl, N1q, e1⟩ := hQ1
  have N1 := Fr.app N0 N1q
  obtain ⟨_, T2, L2, X2, hQ2, st2⟩ := own_static X1 hx hZ hown (w11 hw) (w12 hw) (w13 hw) (w14 hw) (by decide) (r_exp5 l Z a0 hw [] k h0 n0 Z0 (own_nlt hlo' (by decide)) (own_nlt hlo' (by decide)) (own_nlt hlo' (by decide)) (own_nlt hlo' (by decide)) (own_nlt hlo' (by decide)) (own_lt hhi' (by decide))) e1 (W := 1) (by decide) (g := (mkF m 71 #[vi p0, vi p1, vi 2, vi k, .val (.double (FP.ddiv (FP.l2d ((((2 : Int32) * k) + (1 : Int32)).toInt64)) (4730986895511650304 : UInt64))), .second] [(.int k), (.int 32)])) rfl (by rw [hml]; rfl) (argsL := [(.int k)]) (rest := [(.int 32)]) (lenOf pd_1 rfl) rfl rfl (own_wr rfl rfl) (hb hby at_71)
  obtain ⟨rfl, N2q, e2⟩ := hQ2
  have N2 := Fr.app N1 N2q
  refine ⟨T2, _, some (.int 1), X2, (fun h => by cases h <;> rfl), ?_, fun fs hr => ?_⟩
  · show Q_law n0 _ _
    exact ⟨rfl, N2⟩
  · refine t_iloadN 1 X0.here hx (hb hby at_0) rfl rfl ?_
    refine t_iconst 2 (r := 3) X0.here hx (hb hby at_1) (by decide) rfl ?_
    refine t_iand 3 (r := 2) X0.here hx (hb hby at_2) hm rfl ?_
    refine t_istoreN (pc' := 4) (L' := #[vi p0, vi p1, vi 2, .unset, .unset, .unset]) X0.here hx (hb hby at_3) rfl rfl ?_
    refine t_iloadN 5 X0.here hx (hb hby at_4) rfl rfl ?_
    refine t_ifYes (pc := 5) 22 X0.here hx (hb hby at_5) (by decide) (by decide) (by decide) ?_
    refine t_iloadN 23 X0.here hx (hb hby at_22) rfl rfl ?_
    refine t_iconst 24 (r := 1) X0.here hx (hb hby at_23) (by decide) rfl ?_
    refine t_icmpYes (pc := 24) 45 X0.here hx (hb hby at_24) (by decide) (by decide) (by decide) ?_
    refine t_iloadN 46 X0.here hx (hb hby at_45) rfl rfl ?_
    refine X0.ldcInt hx hown (mvT hZ (w0 hw)) (g := (mkF m 46 #[vi p0, vi p1, vi 2, .unset, .unset, .unset] [(.int p0)])) rfl (hb hby at_46) _ ?_
    refine t_iand 49 X0.here hx (hb hby at_48) rfl rfl ?_
    refine X0.ldcInt hx hown (mvT hZ (w1 hw)) (g := (mkF m 49 #[vi p0, vi p1, vi 2, .unset, .unset, .unset] [(.int (p0 &&& (2147483647 : Int32)))])) rfl (hb hby at_49) _ ?_
    refine t_irem 52 (r := k) X0.here hx (hb hby at_51) (by decide) hk.symm rfl ?_
    refine t_istoreN (pc' := 53) (L' := #[vi p0, vi p1, vi 2, vi k, .unset, .unset]) X0.here hx (hb hby at_52) rfl rfl ?_
    refine t_iconst 54 (r := 2) X0.here hx (hb hby at_53) (by decide) rfl ?_
    refine t_iloadN 55 X0.here hx (hb hby at_54) rfl rfl ?_
    refine t_imul 56 X0.here hx (hb hby at_55) rfl rfl ?_
    refine t_iconst 57 (r := 1) X0.here hx (hb hby at_56) (by decide) rfl ?_
    refine t_iadd 58 X0.here hx (hb hby at_57) rfl rfl ?_
    refine t_i2d 59 (r := (FP.l2d ((((2 : Int32) * k) + (1 : Int32)).toInt64))) X0.here hx (hb hby at_58) (i2d_w _) rfl ?_
    refine X0.ldc2DoubleC hx hown (mvT hZ (w2 hw)) (g := (mkF m 59 #[vi p0, vi p1, vi 2, vi k, .unset, .unset] [(.double (FP.l2d ((((2 : Int32) * k) + (1 : Int32)).toInt64)))])) rfl (hb hby at_59) _ ?_
    refine t_ddiv 63 (r := (FP.ddiv (FP.l2d ((((2 : Int32) * k) + (1 : Int32)).toInt64)) (4730986895511650304 : UInt64))) X0.here hx (hb hby at_62) (Jvm.Free.Fl.ddiv_out (Jvm.Free.Fl.l2d_fin _).noNaN (by unfold Jvm.Free.Fl.Fin64; decide) (by unfold Jvm.Free.Fl.Nz64; decide)) rfl rfl ?_
    refine t_dstore (pc' := 65) (L' := #[vi p0, vi p1, vi 2, vi k, .val (.double (FP.ddiv (FP.l2d ((((2 : Int32) * k) + (1 : Int32)).toInt64)) (4730986895511650304 : UInt64))), .second]) X0.here hx (hb hby at_63) rfl rfl ?_
    refine t_dload 67 X0.here hx (hb hby at_65) rfl rfl ?_
    refine st1 _ ?_
    refine t_iloadN 71 X1.here hx (hb hby at_70) rfl rfl ?_
    refine st2 _ ?_
    refine t_icmpNo 77 X2.here hx (hb hby at_74) (by decide) rfl ?_
    refine t_iconst 78 (r := 1) X2.here hx (hb hby at_77) (by decide) rfl ?_
    refine t_goto (pc := 78) 82 X2.here hx (hb hby at_78) (by decide) (by decide) ?_
    exact retN X2 hx (t := .boolean) hret (by simp) (hb hby at_82) hr
theorem ef_law_2_6 (p0 p1 : Int32) (m : MethodId) : entryFrame m #[(.int p0), (.int p1)] maxLocals = mkF m 0 #[.val (.int p0), .val (.int p1), .unset, .unset, .unset, .unset] [] := by first | (simp [entryFrame, mkF, argsToLocals, Value.category, maxLocals]; done) | rfl
set_option maxRecDepth 65536 in
set_option maxHeartbeats 40000000 in
theorem law_2_6 (l : Launch) (Z : State) (a0 : Array Value) (hw : HW Z a0) (ws : List Jvm.Cond) (p0 p1 : Int32) (st_SIZES st_SHARES : Addr) (k_st_SIZES k_st_SHARES : ClassId) (h0 : Heap) (n0 : Nat) (Z0 : n0 ≤ h0.size) (hm : p1 &&& (3 : Int32) = (2 : Int32)) (hlo : ¬ (((p0 &&& (2147483647 : Int32)) - ((p0 &&& (2147483647 : Int32)) / (100000000 : Int32)) * (100000000 : Int32)) < (91580000 : Int32))) (hhi : ((p0 &&& (2147483647 : Int32)) - ((p0 &&& (2147483647 : Int32)) / (100000000 : Int32)) * (100000000 : Int32)) < (98400000 : Int32)) (S_SIZES : Sta Z Z.heap "com/example/bourse/bourse/workload/Model" "SIZES" "[I" (.ref st_SIZES)) (V_st_SIZES : Arv Z h0 st_SIZES k_st_SIZES .int 8 [(.int 1), (.int 2), (.int 4), (.int 8), (.int 16), (.int 32), (.int 64), (.int 128)] z0) (S_SHARES : Sta Z Z.heap "com/example/bourse/bourse/workload/Model" "SHARES" "[D" (.ref st_SHARES)) (V_st_SHARES : Arv Z h0 st_SHARES k_st_SHARES .double 8 [(.double (4598557124793677434 : UInt64)), (.double (4591942237660995650 : UInt64)), (.double (4594406607377092785 : UInt64)), (.double (4593080747646794911 : UInt64)), (.double (4592172821961917019 : UInt64)), (.double (4595552323122295839 : UInt64)), (.double (4589578748576551613 : UInt64)), (.double (4580268907426851324 : UInt64))] (.double (FP.l2d (0 : Int64)))) (O0 : Old Z n0 h0) :
    MetFree l x (head1 (Jvm.Cond.code x code maxLocals ret :: ws) room_1) (fun a U => a = #[(.int p0), (.int p1)] ∧ Z.Warmed39 U.vm ∧ U.heap = h0) (fun _ _ _ _ _ => True) (fun _ U o U' => ∃ v L, o = .returned v ∧ Q_law n0 v L ∧ FrameEnd U o U' L 0 0) := by
  refine own_law (y := x) (k := 0) (n := 0) (plainFor_of_name pn_ModelProcsPinLaw99) (ef_law_2_6 p0 p1) (by decide) (by decide) ?_
  intro p e s m below meth c s₁ hx hby hml hown hnm hret hZ hh e0 X0
  have N0 := Fr.nil n0
  obtain ⟨k, hk⟩ : ∃ z, z = ((p0 &&& (2147483647 : Int32)) - ((p0 &&& (2147483647 : Int32)) / (100000000 : Int32)) * (100000000 : Int32)) := ⟨_, rfl⟩
  have hk0 : 0 ≤ k.toInt := by rw [hk]; exact (own_rem8 p0).1
  have hk1 : k.toInt < 100000000 := by rw [hk]; exact (own_rem8 p0).2
  have hlo' : ¬ (k < (91580000 : Int32)) := by rw [hk]; exact hlo
  have hhi' : k < (98400000 : Int32) := by rw [hk]; exact hhi
  obtain ⟨_, T1, L1, X1, hQ1, st1⟩ := own_static X0 hx hZ hown (w3 hw) (w4 hw) (w5 hw) (w6 hw) (by decide) (r_procs6 l Z a0 hw [] st_SIZES st_SHARES (FP.ddiv (FP.l2d ((((2 : Int32) * k) + (1 : Int32)).toInt64)) (4730986895511650304 : UInt64)) k_st_SIZES k_st_SHARES h0 n0 Z0 S_SIZES O0 V_st_SIZES S_SHARES V_st_SHARES (own_ge0 hk0 hk1 (own_nlt hlo' (by decide))) (own_ge1 hk0 hk1 (own_nlt hlo' (by decide))) (own_ge2 hk0 hk1 (own_nlt hlo' (by decide))) (own_ge3 hk0 hk1 (own_nlt hlo' (by decide))) (own_ge4 hk0 hk1 (own_nlt hlo' (by decide))) (own_ge5 hk0 hk1 (own_nlt hlo' (by decide))) (own_lt6 hk0 hk1 (own_lt hhi' (by decide)))) e0 (W := 0) (by decide) (g := (mkF m 67 #[vi p0, vi p1, vi 2, vi k, .val (.double (FP.ddiv (FP.l2d ((((2 : Int32) * k) + (1 : Int32)).toInt64)) (4730986895511650304 : UInt64))), .second] [(.double (FP.ddiv (FP.l2d ((((2 : Int32) * k) + (1 : Int32)).toInt64)) (4730986895511650304 : UInt64)))])) rfl (by rw [hml]; rfl) (argsL := [(.double (FP.ddiv (FP.l2d ((((2 : Int32) * k) + (1 : Int32)).toInt64)) (4730986895511650304 : UInt64)))]) (rest := []) (lenOf pd_0 rfl) rfl rfl (own_wr rfl rfl) (hb hby at_67)
  obtain ⟨rfl, N1q, e1⟩ := hQ1
  have N1 := Fr.app N0 N1q
  obtain ⟨_, T2, L2, X2, hQ2, st2⟩ := own_static X1 hx hZ hown (w11 hw) (w12 hw) (w13 hw) (w14 hw) (by decide) (r_exp6 l Z a0 hw [] k h0 n0 Z0 (own_nlt hlo' (by decide)) (own_nlt hlo' (by decide)) (own_nlt hlo' (by decide)) (own_nlt hlo' (by decide)) (own_nlt hlo' (by decide)) (own_nlt hlo' (by decide)) (own_lt hhi' (by decide))) e1 (W := 1) (by decide) (g := (mkF m 71 #[vi p0, vi p1, vi 2, vi k, .val (.double (FP.ddiv (FP.l2d ((((2 : Int32) * k) + (1 : Int32)).toInt64)) (4730986895511650304 : UInt64))), .second] [(.int k), (.int 64)])) rfl (by rw [hml]; rfl) (argsL := [(.int k)]) (rest := [(.int 64)]) (lenOf pd_1 rfl) rfl rfl (own_wr rfl rfl) (hb hby at_71)
  obtain ⟨rfl, N2q, e2⟩ := hQ2
  have N2 := Fr.app N1 N2q
  refine ⟨T2, _, some (.int 1), X2, (fun h => by cases h <;> rfl), ?_, fun fs hr => ?_⟩
  · show Q_law n0 _ _
    exact ⟨rfl, N2⟩
  · refine t_iloadN 1 X0.here hx (hb hby at_0) rfl rfl ?_
    refine t_iconst 2 (r := 3) X0.here hx (hb hby at_1) (by decide) rfl ?_
    refine t_iand 3 (r := 2) X0.here hx (hb hby at_2) hm rfl ?_
    refine t_istoreN (pc' := 4) (L' := #[vi p0, vi p1, vi 2, .unset, .unset, .unset]) X0.here hx (hb hby at_3) rfl rfl ?_
    refine t_iloadN 5 X0.here hx (hb hby at_4) rfl rfl ?_
    refine t_ifYes (pc := 5) 22 X0.here hx (hb hby at_5) (by decide) (by decide) (by decide) ?_
    refine t_iloadN 23 X0.here hx (hb hby at_22) rfl rfl ?_
    refine t_iconst 24 (r := 1) X0.here hx (hb hby at_23) (by decide) rfl ?_
    refine t_icmpYes (pc := 24) 45 X0.here hx (hb hby at_24) (by decide) (by decide) (by decide) ?_
    refine t_iloadN 46 X0.here hx (hb hby at_45) rfl rfl ?_
    refine X0.ldcInt hx hown (mvT hZ (w0 hw)) (g := (mkF m 46 #[vi p0, vi p1, vi 2, .unset, .unset, .unset] [(.int p0)])) rfl (hb hby at_46) _ ?_
    refine t_iand 49 X0.here hx (hb hby at_48) rfl rfl ?_
    refine X0.ldcInt hx hown (mvT hZ (w1 hw)) (g := (mkF m 49 #[vi p0, vi p1, vi 2, .unset, .unset, .unset] [(.int (p0 &&& (2147483647 : Int32)))])) rfl (hb hby at_49) _ ?_
    refine t_irem 52 (r := k) X0.here hx (hb hby at_51) (by decide) hk.symm rfl ?_
    refine t_istoreN (pc' := 53) (L' := #[vi p0, vi p1, vi 2, vi k, .unset, .unset]) X0.here hx (hb hby at_52) rfl rfl ?_
    refine t_iconst 54 (r := 2) X0.here hx (hb hby at_53) (by decide) rfl ?_
    refine t_iloadN 55 X0.here hx (hb hby at_54) rfl rfl ?_
    refine t_imul 56 X0.here hx (hb hby at_55) rfl rfl ?_
    refine t_iconst 57 (r := 1) X0.here hx (hb hby at_56) (by decide) rfl ?_
    refine t_iadd 58 X0.here hx (hb hby at_57) rfl rfl ?_
    refine t_i2d 59 (r := (FP.l2d ((((2 : Int32) * k) + (1 : Int32)).toInt64))) X0.here hx (hb hby at_58) (i2d_w _) rfl ?_
    refine X0.ldc2DoubleC hx hown (mvT hZ (w2 hw)) (g := (mkF m 59 #[vi p0, vi p1, vi 2, vi k, .unset, .unset] [(.double (FP.l2d ((((2 : Int32) * k) + (1 : Int32)).toInt64)))])) rfl (hb hby at_59) _ ?_
    refine t_ddiv 63 (r := (FP.ddiv (FP.l2d ((((2 : Int32) * k) + (1 : Int32)).toInt64)) (4730986895511650304 : UInt64))) X0.here hx (hb hby at_62) (Jvm.Free.Fl.ddiv_out (Jvm.Free.Fl.l2d_fin _).noNaN (by unfold Jvm.Free.Fl.Fin64; decide) (by unfold Jvm.Free.Fl.Nz64; decide)) rfl rfl ?_
    refine t_dstore (pc' := 65) (L' := #[vi p0, vi p1, vi 2, vi k, .val (.double (FP.ddiv (FP.l2d ((((2 : Int32) * k) + (1 : Int32)).toInt64)) (4730986895511650304 : UInt64))), .second]) X0.here hx (hb hby at_63) rfl rfl ?_
    refine t_dload 67 X0.here hx (hb hby at_65) rfl rfl ?_
    refine st1 _ ?_
    refine t_iloadN 71 X1.here hx (hb hby at_70) rfl rfl ?_
    refine st2 _ ?_
    refine t_icmpNo 77 X2.here hx (hb hby at_74) (by decide) rfl ?_
    refine t_iconst 78 (r := 1) X2.here hx (hb hby at_77) (by decide) rfl ?_
    refine t_goto (pc := 78) 82 X2.here hx (hb hby at_78) (by decide) (by decide) ?_
    exact retN X2 hx (t := .boolean) hret (by simp) (hb hby at_82) hr
theorem ef_law_2_7 (p0 p1 : Int32) (m : MethodId) : entryFrame m #[(.int p0), (.int p1)] maxLocals = mkF m 0 #[.val (.int p0), .val (.int p1), .unset, .unset, .unset, .unset] [] := by first | (simp [entryFrame, mkF, argsToLocals, Value.category, maxLocals]; done) | rfl
set_option maxRecDepth 65536 in
set_option maxHeartbeats 40000000 in
theorem law_2_7 (l : Launch) (Z : State) (a0 : Array Value) (hw : HW Z a0) (ws : List Jvm.Cond) (p0 p1 : Int32) (st_SIZES st_SHARES : Addr) (k_st_SIZES k_st_SHARES : ClassId) (h0 : Heap) (n0 : Nat) (Z0 : n0 ≤ h0.size) (hm : p1 &&& (3 : Int32) = (2 : Int32)) (hlo : ¬ (((p0 &&& (2147483647 : Int32)) - ((p0 &&& (2147483647 : Int32)) / (100000000 : Int32)) * (100000000 : Int32)) < (98400000 : Int32))) (S_SIZES : Sta Z Z.heap "com/example/bourse/bourse/workload/Model" "SIZES" "[I" (.ref st_SIZES)) (V_st_SIZES : Arv Z h0 st_SIZES k_st_SIZES .int 8 [(.int 1), (.int 2), (.int 4), (.int 8), (.int 16), (.int 32), (.int 64), (.int 128)] z0) (S_SHARES : Sta Z Z.heap "com/example/bourse/bourse/workload/Model" "SHARES" "[D" (.ref st_SHARES)) (V_st_SHARES : Arv Z h0 st_SHARES k_st_SHARES .double 8 [(.double (4598557124793677434 : UInt64)), (.double (4591942237660995650 : UInt64)), (.double (4594406607377092785 : UInt64)), (.double (4593080747646794911 : UInt64)), (.double (4592172821961917019 : UInt64)), (.double (4595552323122295839 : UInt64)), (.double (4589578748576551613 : UInt64)), (.double (4580268907426851324 : UInt64))] (.double (FP.l2d (0 : Int64)))) (O0 : Old Z n0 h0) :
    MetFree l x (head1 (Jvm.Cond.code x code maxLocals ret :: ws) room_1) (fun a U => a = #[(.int p0), (.int p1)] ∧ Z.Warmed39 U.vm ∧ U.heap = h0) (fun _ _ _ _ _ => True) (fun _ U o U' => ∃ v L, o = .returned v ∧ Q_law n0 v L ∧ FrameEnd U o U' L 0 0) := by
  refine own_law (y := x) (k := 0) (n := 0) (plainFor_of_name pn_ModelProcsPinLaw99) (ef_law_2_7 p0 p1) (by decide) (by decide) ?_
  intro p e s m below meth c s₁ hx hby hml hown hnm hret hZ hh e0 X0
  have N0 := Fr.nil n0
  obtain ⟨k, hk⟩ : ∃ z, z = ((p0 &&& (2147483647 : Int32)) - ((p0 &&& (2147483647 : Int32)) / (100000000 : Int32)) * (100000000 : Int32)) := ⟨_, rfl⟩
  have hk0 : 0 ≤ k.toInt := by rw [hk]; exact (own_rem8 p0).1
  have hk1 : k.toInt < 100000000 := by rw [hk]; exact (own_rem8 p0).2
  have hlo' : ¬ (k < (98400000 : Int32)) := by rw [hk]; exact hlo
  obtain ⟨_, T1, L1, X1, hQ1, st1⟩ := own_static X0 hx hZ hown (w3 hw) (w4 hw) (w5 hw) (w6 hw) (by decide) (r_procs7 l Z a0 hw [] st_SIZES st_SHARES (FP.ddiv (FP.l2d ((((2 : Int32) * k) + (1 : Int32)).toInt64)) (4730986895511650304 : UInt64)) k_st_SIZES k_st_SHARES h0 n0 Z0 S_SIZES O0 V_st_SIZES S_SHARES V_st_SHARES (own_ge0 hk0 hk1 (own_nlt hlo' (by decide))) (own_ge1 hk0 hk1 (own_nlt hlo' (by decide))) (own_ge2 hk0 hk1 (own_nlt hlo' (by decide))) (own_ge3 hk0 hk1 (own_nlt hlo' (by decide))) (own_ge4 hk0 hk1 (own_nlt hlo' (by decide))) (own_ge5 hk0 hk1 (own_nlt hlo' (by decide))) (own_ge6 hk0 hk1 (own_nlt hlo' (by decide)))) e0 (W := 0) (by decide) (g := (mkF m 67 #[vi p0, vi p1, vi 2, vi k, .val (.double (FP.ddiv (FP.l2d ((((2 : Int32) * k) + (1 : Int32)).toInt64)) (4730986895511650304 : UInt64))), .second] [(.double (FP.ddiv (FP.l2d ((((2 : Int32) * k) + (1 : Int32)).toInt64)) (4730986895511650304 : UInt64)))])) rfl (by rw [hml]; rfl) (argsL := [(.double (FP.ddiv (FP.l2d ((((2 : Int32) * k) + (1 : Int32)).toInt64)) (4730986895511650304 : UInt64)))]) (rest := []) (lenOf pd_0 rfl) rfl rfl (own_wr rfl rfl) (hb hby at_67)
  obtain ⟨rfl, N1q, e1⟩ := hQ1
  have N1 := Fr.app N0 N1q
  obtain ⟨_, T2, L2, X2, hQ2, st2⟩ := own_static X1 hx hZ hown (w11 hw) (w12 hw) (w13 hw) (w14 hw) (by decide) (r_exp7 l Z a0 hw [] k h0 n0 Z0 (own_nlt hlo' (by decide)) (own_nlt hlo' (by decide)) (own_nlt hlo' (by decide)) (own_nlt hlo' (by decide)) (own_nlt hlo' (by decide)) (own_nlt hlo' (by decide)) (own_nlt hlo' (by decide))) e1 (W := 1) (by decide) (g := (mkF m 71 #[vi p0, vi p1, vi 2, vi k, .val (.double (FP.ddiv (FP.l2d ((((2 : Int32) * k) + (1 : Int32)).toInt64)) (4730986895511650304 : UInt64))), .second] [(.int k), (.int 128)])) rfl (by rw [hml]; rfl) (argsL := [(.int k)]) (rest := [(.int 128)]) (lenOf pd_1 rfl) rfl rfl (own_wr rfl rfl) (hb hby at_71)
  obtain ⟨rfl, N2q, e2⟩ := hQ2
  have N2 := Fr.app N1 N2q
  refine ⟨T2, _, some (.int 1), X2, (fun h => by cases h <;> rfl), ?_, fun fs hr => ?_⟩
  · show Q_law n0 _ _
    exact ⟨rfl, N2⟩
  · refine t_iloadN 1 X0.here hx (hb hby at_0) rfl rfl ?_
    refine t_iconst 2 (r := 3) X0.here hx (hb hby at_1) (by decide) rfl ?_
    refine t_iand 3 (r := 2) X0.here hx (hb hby at_2) hm rfl ?_
    refine t_istoreN (pc' := 4) (L' := #[vi p0, vi p1, vi 2, .unset, .unset, .unset]) X0.here hx (hb hby at_3) rfl rfl ?_
    refine t_iloadN 5 X0.here hx (hb hby at_4) rfl rfl ?_
    refine t_ifYes (pc := 5) 22 X0.here hx (hb hby at_5) (by decide) (by decide) (by decide) ?_
    refine t_iloadN 23 X0.here hx (hb hby at_22) rfl rfl ?_
    refine t_iconst 24 (r := 1) X0.here hx (hb hby at_23) (by decide) rfl ?_
    refine t_icmpYes (pc := 24) 45 X0.here hx (hb hby at_24) (by decide) (by decide) (by decide) ?_
    refine t_iloadN 46 X0.here hx (hb hby at_45) rfl rfl ?_
    refine X0.ldcInt hx hown (mvT hZ (w0 hw)) (g := (mkF m 46 #[vi p0, vi p1, vi 2, .unset, .unset, .unset] [(.int p0)])) rfl (hb hby at_46) _ ?_
    refine t_iand 49 X0.here hx (hb hby at_48) rfl rfl ?_
    refine X0.ldcInt hx hown (mvT hZ (w1 hw)) (g := (mkF m 49 #[vi p0, vi p1, vi 2, .unset, .unset, .unset] [(.int (p0 &&& (2147483647 : Int32)))])) rfl (hb hby at_49) _ ?_
    refine t_irem 52 (r := k) X0.here hx (hb hby at_51) (by decide) hk.symm rfl ?_
    refine t_istoreN (pc' := 53) (L' := #[vi p0, vi p1, vi 2, vi k, .unset, .unset]) X0.here hx (hb hby at_52) rfl rfl ?_
    refine t_iconst 54 (r := 2) X0.here hx (hb hby at_53) (by decide) rfl ?_
    refine t_iloadN 55 X0.here hx (hb hby at_54) rfl rfl ?_
    refine t_imul 56 X0.here hx (hb hby at_55) rfl rfl ?_
    refine t_iconst 57 (r := 1) X0.here hx (hb hby at_56) (by decide) rfl ?_
    refine t_iadd 58 X0.here hx (hb hby at_57) rfl rfl ?_
    refine t_i2d 59 (r := (FP.l2d ((((2 : Int32) * k) + (1 : Int32)).toInt64))) X0.here hx (hb hby at_58) (i2d_w _) rfl ?_
    refine X0.ldc2DoubleC hx hown (mvT hZ (w2 hw)) (g := (mkF m 59 #[vi p0, vi p1, vi 2, vi k, .unset, .unset] [(.double (FP.l2d ((((2 : Int32) * k) + (1 : Int32)).toInt64)))])) rfl (hb hby at_59) _ ?_
    refine t_ddiv 63 (r := (FP.ddiv (FP.l2d ((((2 : Int32) * k) + (1 : Int32)).toInt64)) (4730986895511650304 : UInt64))) X0.here hx (hb hby at_62) (Jvm.Free.Fl.ddiv_out (Jvm.Free.Fl.l2d_fin _).noNaN (by unfold Jvm.Free.Fl.Fin64; decide) (by unfold Jvm.Free.Fl.Nz64; decide)) rfl rfl ?_
    refine t_dstore (pc' := 65) (L' := #[vi p0, vi p1, vi 2, vi k, .val (.double (FP.ddiv (FP.l2d ((((2 : Int32) * k) + (1 : Int32)).toInt64)) (4730986895511650304 : UInt64))), .second]) X0.here hx (hb hby at_63) rfl rfl ?_
    refine t_dload 67 X0.here hx (hb hby at_65) rfl rfl ?_
    refine st1 _ ?_
    refine t_iloadN 71 X1.here hx (hb hby at_70) rfl rfl ?_
    refine st2 _ ?_
    refine t_icmpNo 77 X2.here hx (hb hby at_74) (by decide) rfl ?_
    refine t_iconst 78 (r := 1) X2.here hx (hb hby at_77) (by decide) rfl ?_
    refine t_goto (pc := 78) 82 X2.here hx (hb hby at_78) (by decide) (by decide) ?_
    exact retN X2 hx (t := .boolean) hret (by simp) (hb hby at_82) hr
theorem ef_law_3_0 (p0 p1 : Int32) (m : MethodId) : entryFrame m #[(.int p0), (.int p1)] maxLocals = mkF m 0 #[.val (.int p0), .val (.int p1), .unset, .unset, .unset, .unset] [] := by first | (simp [entryFrame, mkF, argsToLocals, Value.category, maxLocals]; done) | rfl
set_option maxRecDepth 65536 in
set_option maxHeartbeats 40000000 in
theorem law_3_0 (l : Launch) (Z : State) (a0 : Array Value) (hw : HW Z a0) (ws : List Jvm.Cond) (p0 p1 : Int32) (st_SIZES st_SHARES : Addr) (k_st_SIZES k_st_SHARES : ClassId) (h0 : Heap) (n0 : Nat) (Z0 : n0 ≤ h0.size) (hm : p1 &&& (3 : Int32) = (3 : Int32)) (hhi : ((p0 &&& (2147483647 : Int32)) - ((p0 &&& (2147483647 : Int32)) / (100000000 : Int32)) * (100000000 : Int32)) < (27120000 : Int32)) (S_SIZES : Sta Z Z.heap "com/example/bourse/bourse/workload/Model" "SIZES" "[I" (.ref st_SIZES)) (V_st_SIZES : Arv Z h0 st_SIZES k_st_SIZES .int 8 [(.int 1), (.int 2), (.int 4), (.int 8), (.int 16), (.int 32), (.int 64), (.int 128)] z0) (S_SHARES : Sta Z Z.heap "com/example/bourse/bourse/workload/Model" "SHARES" "[D" (.ref st_SHARES)) (V_st_SHARES : Arv Z h0 st_SHARES k_st_SHARES .double 8 [(.double (4598557124793677434 : UInt64)), (.double (4591942237660995650 : UInt64)), (.double (4594406607377092785 : UInt64)), (.double (4593080747646794911 : UInt64)), (.double (4592172821961917019 : UInt64)), (.double (4595552323122295839 : UInt64)), (.double (4589578748576551613 : UInt64)), (.double (4580268907426851324 : UInt64))] (.double (FP.l2d (0 : Int64)))) (O0 : Old Z n0 h0) :
    MetFree l x (head1 (Jvm.Cond.code x code maxLocals ret :: ws) room_1) (fun a U => a = #[(.int p0), (.int p1)] ∧ Z.Warmed39 U.vm ∧ U.heap = h0) (fun _ _ _ _ _ => True) (fun _ U o U' => ∃ v L, o = .returned v ∧ Q_law n0 v L ∧ FrameEnd U o U' L 0 0) := by
  refine own_law (y := x) (k := 0) (n := 0) (plainFor_of_name pn_ModelProcsPinLaw99) (ef_law_3_0 p0 p1) (by decide) (by decide) ?_
  intro p e s m below meth c s₁ hx hby hml hown hnm hret hZ hh e0 X0
  have N0 := Fr.nil n0
  obtain ⟨k, hk⟩ : ∃ z, z = ((p0 &&& (2147483647 : Int32)) - ((p0 &&& (2147483647 : Int32)) / (100000000 : Int32)) * (100000000 : Int32)) := ⟨_, rfl⟩
  have hk0 : 0 ≤ k.toInt := by rw [hk]; exact (own_rem8 p0).1
  have hk1 : k.toInt < 100000000 := by rw [hk]; exact (own_rem8 p0).2
  have hhi' : k < (27120000 : Int32) := by rw [hk]; exact hhi
  obtain ⟨_, T1, L1, X1, hQ1, st1⟩ := own_static X0 hx hZ hown (w3 hw) (w4 hw) (w5 hw) (w6 hw) (by decide) (r_procs0 l Z a0 hw [] st_SIZES st_SHARES (FP.ddiv (FP.l2d ((((2 : Int32) * k) + (1 : Int32)).toInt64)) (4730986895511650304 : UInt64)) k_st_SIZES k_st_SHARES h0 n0 Z0 S_SIZES O0 V_st_SIZES S_SHARES V_st_SHARES (own_lt0 hk0 hk1 (own_lt hhi' (by decide)))) e0 (W := 0) (by decide) (g := (mkF m 67 #[vi p0, vi p1, vi 3, vi k, .val (.double (FP.ddiv (FP.l2d ((((2 : Int32) * k) + (1 : Int32)).toInt64)) (4730986895511650304 : UInt64))), .second] [(.double (FP.ddiv (FP.l2d ((((2 : Int32) * k) + (1 : Int32)).toInt64)) (4730986895511650304 : UInt64)))])) rfl (by rw [hml]; rfl) (argsL := [(.double (FP.ddiv (FP.l2d ((((2 : Int32) * k) + (1 : Int32)).toInt64)) (4730986895511650304 : UInt64)))]) (rest := []) (lenOf pd_0 rfl) rfl rfl (own_wr rfl rfl) (hb hby at_67)
  obtain ⟨rfl, N1q, e1⟩ := hQ1
  have N1 := Fr.app N0 N1q
  obtain ⟨_, T2, L2, X2, hQ2, st2⟩ := own_static X1 hx hZ hown (w11 hw) (w12 hw) (w13 hw) (w14 hw) (by decide) (r_exp0 l Z a0 hw [] k h0 n0 Z0 (own_lt hhi' (by decide))) e1 (W := 1) (by decide) (g := (mkF m 71 #[vi p0, vi p1, vi 3, vi k, .val (.double (FP.ddiv (FP.l2d ((((2 : Int32) * k) + (1 : Int32)).toInt64)) (4730986895511650304 : UInt64))), .second] [(.int k), (.int 1)])) rfl (by rw [hml]; rfl) (argsL := [(.int k)]) (rest := [(.int 1)]) (lenOf pd_1 rfl) rfl rfl (own_wr rfl rfl) (hb hby at_71)
  obtain ⟨rfl, N2q, e2⟩ := hQ2
  have N2 := Fr.app N1 N2q
  refine ⟨T2, _, some (.int 1), X2, (fun h => by cases h <;> rfl), ?_, fun fs hr => ?_⟩
  · show Q_law n0 _ _
    exact ⟨rfl, N2⟩
  · refine t_iloadN 1 X0.here hx (hb hby at_0) rfl rfl ?_
    refine t_iconst 2 (r := 3) X0.here hx (hb hby at_1) (by decide) rfl ?_
    refine t_iand 3 (r := 3) X0.here hx (hb hby at_2) hm rfl ?_
    refine t_istoreN (pc' := 4) (L' := #[vi p0, vi p1, vi 3, .unset, .unset, .unset]) X0.here hx (hb hby at_3) rfl rfl ?_
    refine t_iloadN 5 X0.here hx (hb hby at_4) rfl rfl ?_
    refine t_ifYes (pc := 5) 22 X0.here hx (hb hby at_5) (by decide) (by decide) (by decide) ?_
    refine t_iloadN 23 X0.here hx (hb hby at_22) rfl rfl ?_
    refine t_iconst 24 (r := 1) X0.here hx (hb hby at_23) (by decide) rfl ?_
    refine t_icmpYes (pc := 24) 45 X0.here hx (hb hby at_24) (by decide) (by decide) (by decide) ?_
    refine t_iloadN 46 X0.here hx (hb hby at_45) rfl rfl ?_
    refine X0.ldcInt hx hown (mvT hZ (w0 hw)) (g := (mkF m 46 #[vi p0, vi p1, vi 3, .unset, .unset, .unset] [(.int p0)])) rfl (hb hby at_46) _ ?_
    refine t_iand 49 X0.here hx (hb hby at_48) rfl rfl ?_
    refine X0.ldcInt hx hown (mvT hZ (w1 hw)) (g := (mkF m 49 #[vi p0, vi p1, vi 3, .unset, .unset, .unset] [(.int (p0 &&& (2147483647 : Int32)))])) rfl (hb hby at_49) _ ?_
    refine t_irem 52 (r := k) X0.here hx (hb hby at_51) (by decide) hk.symm rfl ?_
    refine t_istoreN (pc' := 53) (L' := #[vi p0, vi p1, vi 3, vi k, .unset, .unset]) X0.here hx (hb hby at_52) rfl rfl ?_
    refine t_iconst 54 (r := 2) X0.here hx (hb hby at_53) (by decide) rfl ?_
    refine t_iloadN 55 X0.here hx (hb hby at_54) rfl rfl ?_
    refine t_imul 56 X0.here hx (hb hby at_55) rfl rfl ?_
    refine t_iconst 57 (r := 1) X0.here hx (hb hby at_56) (by decide) rfl ?_
    refine t_iadd 58 X0.here hx (hb hby at_57) rfl rfl ?_
    refine t_i2d 59 (r := (FP.l2d ((((2 : Int32) * k) + (1 : Int32)).toInt64))) X0.here hx (hb hby at_58) (i2d_w _) rfl ?_
    refine X0.ldc2DoubleC hx hown (mvT hZ (w2 hw)) (g := (mkF m 59 #[vi p0, vi p1, vi 3, vi k, .unset, .unset] [(.double (FP.l2d ((((2 : Int32) * k) + (1 : Int32)).toInt64)))])) rfl (hb hby at_59) _ ?_
    refine t_ddiv 63 (r := (FP.ddiv (FP.l2d ((((2 : Int32) * k) + (1 : Int32)).toInt64)) (4730986895511650304 : UInt64))) X0.here hx (hb hby at_62) (Jvm.Free.Fl.ddiv_out (Jvm.Free.Fl.l2d_fin _).noNaN (by unfold Jvm.Free.Fl.Fin64; decide) (by unfold Jvm.Free.Fl.Nz64; decide)) rfl rfl ?_
    refine t_dstore (pc' := 65) (L' := #[vi p0, vi p1, vi 3, vi k, .val (.double (FP.ddiv (FP.l2d ((((2 : Int32) * k) + (1 : Int32)).toInt64)) (4730986895511650304 : UInt64))), .second]) X0.here hx (hb hby at_63) rfl rfl ?_
    refine t_dload 67 X0.here hx (hb hby at_65) rfl rfl ?_
    refine st1 _ ?_
    refine t_iloadN 71 X1.here hx (hb hby at_70) rfl rfl ?_
    refine st2 _ ?_
    refine t_icmpNo 77 X2.here hx (hb hby at_74) (by decide) rfl ?_
    refine t_iconst 78 (r := 1) X2.here hx (hb hby at_77) (by decide) rfl ?_
    refine t_goto (pc := 78) 82 X2.here hx (hb hby at_78) (by decide) (by decide) ?_
    exact retN X2 hx (t := .boolean) hret (by simp) (hb hby at_82) hr
theorem ef_law_3_1 (p0 p1 : Int32) (m : MethodId) : entryFrame m #[(.int p0), (.int p1)] maxLocals = mkF m 0 #[.val (.int p0), .val (.int p1), .unset, .unset, .unset, .unset] [] := by first | (simp [entryFrame, mkF, argsToLocals, Value.category, maxLocals]; done) | rfl
set_option maxRecDepth 65536 in
set_option maxHeartbeats 40000000 in
theorem law_3_1 (l : Launch) (Z : State) (a0 : Array Value) (hw : HW Z a0) (ws : List Jvm.Cond) (p0 p1 : Int32) (st_SIZES st_SHARES : Addr) (k_st_SIZES k_st_SHARES : ClassId) (h0 : Heap) (n0 : Nat) (Z0 : n0 ≤ h0.size) (hm : p1 &&& (3 : Int32) = (3 : Int32)) (hlo : ¬ (((p0 &&& (2147483647 : Int32)) - ((p0 &&& (2147483647 : Int32)) / (100000000 : Int32)) * (100000000 : Int32)) < (27120000 : Int32))) (hhi : ((p0 &&& (2147483647 : Int32)) - ((p0 &&& (2147483647 : Int32)) / (100000000 : Int32)) * (100000000 : Int32)) < (37220000 : Int32)) (S_SIZES : Sta Z Z.heap "com/example/bourse/bourse/workload/Model" "SIZES" "[I" (.ref st_SIZES)) (V_st_SIZES : Arv Z h0 st_SIZES k_st_SIZES .int 8 [(.int 1), (.int 2), (.int 4), (.int 8), (.int 16), (.int 32), (.int 64), (.int 128)] z0) (S_SHARES : Sta Z Z.heap "com/example/bourse/bourse/workload/Model" "SHARES" "[D" (.ref st_SHARES)) (V_st_SHARES : Arv Z h0 st_SHARES k_st_SHARES .double 8 [(.double (4598557124793677434 : UInt64)), (.double (4591942237660995650 : UInt64)), (.double (4594406607377092785 : UInt64)), (.double (4593080747646794911 : UInt64)), (.double (4592172821961917019 : UInt64)), (.double (4595552323122295839 : UInt64)), (.double (4589578748576551613 : UInt64)), (.double (4580268907426851324 : UInt64))] (.double (FP.l2d (0 : Int64)))) (O0 : Old Z n0 h0) :
    MetFree l x (head1 (Jvm.Cond.code x code maxLocals ret :: ws) room_1) (fun a U => a = #[(.int p0), (.int p1)] ∧ Z.Warmed39 U.vm ∧ U.heap = h0) (fun _ _ _ _ _ => True) (fun _ U o U' => ∃ v L, o = .returned v ∧ Q_law n0 v L ∧ FrameEnd U o U' L 0 0) := by
  refine own_law (y := x) (k := 0) (n := 0) (plainFor_of_name pn_ModelProcsPinLaw99) (ef_law_3_1 p0 p1) (by decide) (by decide) ?_
  intro p e s m below meth c s₁ hx hby hml hown hnm hret hZ hh e0 X0
  have N0 := Fr.nil n0
  obtain ⟨k, hk⟩ : ∃ z, z = ((p0 &&& (2147483647 : Int32)) - ((p0 &&& (2147483647 : Int32)) / (100000000 : Int32)) * (100000000 : Int32)) := ⟨_, rfl⟩
  have hk0 : 0 ≤ k.toInt := by rw [hk]; exact (own_rem8 p0).1
  have hk1 : k.toInt < 100000000 := by rw [hk]; exact (own_rem8 p0).2
  have hlo' : ¬ (k < (27120000 : Int32)) := by rw [hk]; exact hlo
  have hhi' : k < (37220000 : Int32) := by rw [hk]; exact hhi
  obtain ⟨_, T1, L1, X1, hQ1, st1⟩ := own_static X0 hx hZ hown (w3 hw) (w4 hw) (w5 hw) (w6 hw) (by decide) (r_procs1 l Z a0 hw [] st_SIZES st_SHARES (FP.ddiv (FP.l2d ((((2 : Int32) * k) + (1 : Int32)).toInt64)) (4730986895511650304 : UInt64)) k_st_SIZES k_st_SHARES h0 n0 Z0 S_SIZES O0 V_st_SIZES S_SHARES V_st_SHARES (own_ge0 hk0 hk1 (own_nlt hlo' (by decide))) (own_lt1 hk0 hk1 (own_lt hhi' (by decide)))) e0 (W := 0) (by decide) (g := (mkF m 67 #[vi p0, vi p1, vi 3, vi k, .val (.double (FP.ddiv (FP.l2d ((((2 : Int32) * k) + (1 : Int32)).toInt64)) (4730986895511650304 : UInt64))), .second] [(.double (FP.ddiv (FP.l2d ((((2 : Int32) * k) + (1 : Int32)).toInt64)) (4730986895511650304 : UInt64)))])) rfl (by rw [hml]; rfl) (argsL := [(.double (FP.ddiv (FP.l2d ((((2 : Int32) * k) + (1 : Int32)).toInt64)) (4730986895511650304 : UInt64)))]) (rest := []) (lenOf pd_0 rfl) rfl rfl (own_wr rfl rfl) (hb hby at_67)
  obtain ⟨rfl, N1q, e1⟩ := hQ1
  have N1 := Fr.app N0 N1q
  obtain ⟨_, T2, L2, X2, hQ2, st2⟩ := own_static X1 hx hZ hown (w11 hw) (w12 hw) (w13 hw) (w14 hw) (by decide) (r_exp1 l Z a0 hw [] k h0 n0 Z0 (own_nlt hlo' (by decide)) (own_lt hhi' (by decide))) e1 (W := 1) (by decide) (g := (mkF m 71 #[vi p0, vi p1, vi 3, vi k, .val (.double (FP.ddiv (FP.l2d ((((2 : Int32) * k) + (1 : Int32)).toInt64)) (4730986895511650304 : UInt64))), .second] [(.int k), (.int 2)])) rfl (by rw [hml]; rfl) (argsL := [(.int k)]) (rest := [(.int 2)]) (lenOf pd_1 rfl) rfl rfl (own_wr rfl rfl) (hb hby at_71)
  obtain ⟨rfl, N2q, e2⟩ := hQ2
  have N2 := Fr.app N1 N2q
  refine ⟨T2, _, some (.int 1), X2, (fun h => by cases h <;> rfl), ?_, fun fs hr => ?_⟩
  · show Q_law n0 _ _
    exact ⟨rfl, N2⟩
  · refine t_iloadN 1 X0.here hx (hb hby at_0) rfl rfl ?_
    refine t_iconst 2 (r := 3) X0.here hx (hb hby at_1) (by decide) rfl ?_
    refine t_iand 3 (r := 3) X0.here hx (hb hby at_2) hm rfl ?_
    refine t_istoreN (pc' := 4) (L' := #[vi p0, vi p1, vi 3, .unset, .unset, .unset]) X0.here hx (hb hby at_3) rfl rfl ?_
    refine t_iloadN 5 X0.here hx (hb hby at_4) rfl rfl ?_
    refine t_ifYes (pc := 5) 22 X0.here hx (hb hby at_5) (by decide) (by decide) (by decide) ?_
    refine t_iloadN 23 X0.here hx (hb hby at_22) rfl rfl ?_
    refine t_iconst 24 (r := 1) X0.here hx (hb hby at_23) (by decide) rfl ?_
    refine t_icmpYes (pc := 24) 45 X0.here hx (hb hby at_24) (by decide) (by decide) (by decide) ?_
    refine t_iloadN 46 X0.here hx (hb hby at_45) rfl rfl ?_
    refine X0.ldcInt hx hown (mvT hZ (w0 hw)) (g := (mkF m 46 #[vi p0, vi p1, vi 3, .unset, .unset, .unset] [(.int p0)])) rfl (hb hby at_46) _ ?_
    refine t_iand 49 X0.here hx (hb hby at_48) rfl rfl ?_
    refine X0.ldcInt hx hown (mvT hZ (w1 hw)) (g := (mkF m 49 #[vi p0, vi p1, vi 3, .unset, .unset, .unset] [(.int (p0 &&& (2147483647 : Int32)))])) rfl (hb hby at_49) _ ?_
    refine t_irem 52 (r := k) X0.here hx (hb hby at_51) (by decide) hk.symm rfl ?_
    refine t_istoreN (pc' := 53) (L' := #[vi p0, vi p1, vi 3, vi k, .unset, .unset]) X0.here hx (hb hby at_52) rfl rfl ?_
    refine t_iconst 54 (r := 2) X0.here hx (hb hby at_53) (by decide) rfl ?_
    refine t_iloadN 55 X0.here hx (hb hby at_54) rfl rfl ?_
    refine t_imul 56 X0.here hx (hb hby at_55) rfl rfl ?_
    refine t_iconst 57 (r := 1) X0.here hx (hb hby at_56) (by decide) rfl ?_
    refine t_iadd 58 X0.here hx (hb hby at_57) rfl rfl ?_
    refine t_i2d 59 (r := (FP.l2d ((((2 : Int32) * k) + (1 : Int32)).toInt64))) X0.here hx (hb hby at_58) (i2d_w _) rfl ?_
    refine X0.ldc2DoubleC hx hown (mvT hZ (w2 hw)) (g := (mkF m 59 #[vi p0, vi p1, vi 3, vi k, .unset, .unset] [(.double (FP.l2d ((((2 : Int32) * k) + (1 : Int32)).toInt64)))])) rfl (hb hby at_59) _ ?_
    refine t_ddiv 63 (r := (FP.ddiv (FP.l2d ((((2 : Int32) * k) + (1 : Int32)).toInt64)) (4730986895511650304 : UInt64))) X0.here hx (hb hby at_62) (Jvm.Free.Fl.ddiv_out (Jvm.Free.Fl.l2d_fin _).noNaN (by unfold Jvm.Free.Fl.Fin64; decide) (by unfold Jvm.Free.Fl.Nz64; decide)) rfl rfl ?_
    refine t_dstore (pc' := 65) (L' := #[vi p0, vi p1, vi 3, vi k, .val (.double (FP.ddiv (FP.l2d ((((2 : Int32) * k) + (1 : Int32)).toInt64)) (4730986895511650304 : UInt64))), .second]) X0.here hx (hb hby at_63) rfl rfl ?_
    refine t_dload 67 X0.here hx (hb hby at_65) rfl rfl ?_
    refine st1 _ ?_
    refine t_iloadN 71 X1.here hx (hb hby at_70) rfl rfl ?_
    refine st2 _ ?_
    refine t_icmpNo 77 X2.here hx (hb hby at_74) (by decide) rfl ?_
    refine t_iconst 78 (r := 1) X2.here hx (hb hby at_77) (by decide) rfl ?_
    refine t_goto (pc := 78) 82 X2.here hx (hb hby at_78) (by decide) (by decide) ?_
    exact retN X2 hx (t := .boolean) hret (by simp) (hb hby at_82) hr
theorem ef_law_3_2 (p0 p1 : Int32) (m : MethodId) : entryFrame m #[(.int p0), (.int p1)] maxLocals = mkF m 0 #[.val (.int p0), .val (.int p1), .unset, .unset, .unset, .unset] [] := by first | (simp [entryFrame, mkF, argsToLocals, Value.category, maxLocals]; done) | rfl
set_option maxRecDepth 65536 in
set_option maxHeartbeats 40000000 in
theorem law_3_2 (l : Launch) (Z : State) (a0 : Array Value) (hw : HW Z a0) (ws : List Jvm.Cond) (p0 p1 : Int32) (st_SIZES st_SHARES : Addr) (k_st_SIZES k_st_SHARES : ClassId) (h0 : Heap) (n0 : Nat) (Z0 : n0 ≤ h0.size) (hm : p1 &&& (3 : Int32) = (3 : Int32)) (hlo : ¬ (((p0 &&& (2147483647 : Int32)) - ((p0 &&& (2147483647 : Int32)) / (100000000 : Int32)) * (100000000 : Int32)) < (37220000 : Int32))) (hhi : ((p0 &&& (2147483647 : Int32)) - ((p0 &&& (2147483647 : Int32)) / (100000000 : Int32)) * (100000000 : Int32)) < (51760000 : Int32)) (S_SIZES : Sta Z Z.heap "com/example/bourse/bourse/workload/Model" "SIZES" "[I" (.ref st_SIZES)) (V_st_SIZES : Arv Z h0 st_SIZES k_st_SIZES .int 8 [(.int 1), (.int 2), (.int 4), (.int 8), (.int 16), (.int 32), (.int 64), (.int 128)] z0) (S_SHARES : Sta Z Z.heap "com/example/bourse/bourse/workload/Model" "SHARES" "[D" (.ref st_SHARES)) (V_st_SHARES : Arv Z h0 st_SHARES k_st_SHARES .double 8 [(.double (4598557124793677434 : UInt64)), (.double (4591942237660995650 : UInt64)), (.double (4594406607377092785 : UInt64)), (.double (4593080747646794911 : UInt64)), (.double (4592172821961917019 : UInt64)), (.double (4595552323122295839 : UInt64)), (.double (4589578748576551613 : UInt64)), (.double (4580268907426851324 : UInt64))] (.double (FP.l2d (0 : Int64)))) (O0 : Old Z n0 h0) :
    MetFree l x (head1 (Jvm.Cond.code x code maxLocals ret :: ws) room_1) (fun a U => a = #[(.int p0), (.int p1)] ∧ Z.Warmed39 U.vm ∧ U.heap = h0) (fun _ _ _ _ _ => True) (fun _ U o U' => ∃ v L, o = .returned v ∧ Q_law n0 v L ∧ FrameEnd U o U' L 0 0) := by
  refine own_law (y := x) (k := 0) (n := 0) (plainFor_of_name pn_ModelProcsPinLaw99) (ef_law_3_2 p0 p1) (by decide) (by decide) ?_
  intro p e s m below meth c s₁ hx hby hml hown hnm hret hZ hh e0 X0
  have N0 := Fr.nil n0
  obtain ⟨k, hk⟩ : ∃ z, z = ((p0 &&& (2147483647 : Int32)) - ((p0 &&& (2147483647 : Int32)) / (100000000 : Int32)) * (100000000 : Int32)) := ⟨_, rfl⟩
  have hk0 : 0 ≤ k.toInt := by rw [hk]; exact (own_rem8 p0).1
  have hk1 : k.toInt < 100000000 := by rw [hk]; exact (own_rem8 p0).2
  have hlo' : ¬ (k < (37220000 : Int32)) := by rw [hk]; exact hlo
  have hhi' : k < (51760000 : Int32) := by rw [hk]; exact hhi
  obtain ⟨_, T1, L1, X1, hQ1, st1⟩ := own_static X0 hx hZ hown (w3 hw) (w4 hw) (w5 hw) (w6 hw) (by decide) (r_procs2 l Z a0 hw [] st_SIZES st_SHARES (FP.ddiv (FP.l2d ((((2 : Int32) * k) + (1 : Int32)).toInt64)) (4730986895511650304 : UInt64)) k_st_SIZES k_st_SHARES h0 n0 Z0 S_SIZES O0 V_st_SIZES S_SHARES V_st_SHARES (own_ge0 hk0 hk1 (own_nlt hlo' (by decide))) (own_ge1 hk0 hk1 (own_nlt hlo' (by decide))) (own_lt2 hk0 hk1 (own_lt hhi' (by decide)))) e0 (W := 0) (by decide) (g := (mkF m 67 #[vi p0, vi p1, vi 3, vi k, .val (.double (FP.ddiv (FP.l2d ((((2 : Int32) * k) + (1 : Int32)).toInt64)) (4730986895511650304 : UInt64))), .second] [(.double (FP.ddiv (FP.l2d ((((2 : Int32) * k) + (1 : Int32)).toInt64)) (4730986895511650304 : UInt64)))])) rfl (by rw [hml]; rfl) (argsL := [(.double (FP.ddiv (FP.l2d ((((2 : Int32) * k) + (1 : Int32)).toInt64)) (4730986895511650304 : UInt64)))]) (rest := []) (lenOf pd_0 rfl) rfl rfl (own_wr rfl rfl) (hb hby at_67)
  obtain ⟨rfl, N1q, e1⟩ := hQ1
  have N1 := Fr.app N0 N1q
  obtain ⟨_, T2, L2, X2, hQ2, st2⟩ := own_static X1 hx hZ hown (w11 hw) (w12 hw) (w13 hw) (w14 hw) (by decide) (r_exp2 l Z a0 hw [] k h0 n0 Z0 (own_nlt hlo' (by decide)) (own_nlt hlo' (by decide)) (own_lt hhi' (by decide))) e1 (W := 1) (by decide) (g := (mkF m 71 #[vi p0, vi p1, vi 3, vi k, .val (.double (FP.ddiv (FP.l2d ((((2 : Int32) * k) + (1 : Int32)).toInt64)) (4730986895511650304 : UInt64))), .second] [(.int k), (.int 4)])) rfl (by rw [hml]; rfl) (argsL := [(.int k)]) (rest := [(.int 4)]) (lenOf pd_1 rfl) rfl rfl (own_wr rfl rfl) (hb hby at_71)
  obtain ⟨rfl, N2q, e2⟩ := hQ2
  have N2 := Fr.app N1 N2q
  refine ⟨T2, _, some (.int 1), X2, (fun h => by cases h <;> rfl), ?_, fun fs hr => ?_⟩
  · show Q_law n0 _ _
    exact ⟨rfl, N2⟩
  · refine t_iloadN 1 X0.here hx (hb hby at_0) rfl rfl ?_
    refine t_iconst 2 (r := 3) X0.here hx (hb hby at_1) (by decide) rfl ?_
    refine t_iand 3 (r := 3) X0.here hx (hb hby at_2) hm rfl ?_
    refine t_istoreN (pc' := 4) (L' := #[vi p0, vi p1, vi 3, .unset, .unset, .unset]) X0.here hx (hb hby at_3) rfl rfl ?_
    refine t_iloadN 5 X0.here hx (hb hby at_4) rfl rfl ?_
    refine t_ifYes (pc := 5) 22 X0.here hx (hb hby at_5) (by decide) (by decide) (by decide) ?_
    refine t_iloadN 23 X0.here hx (hb hby at_22) rfl rfl ?_
    refine t_iconst 24 (r := 1) X0.here hx (hb hby at_23) (by decide) rfl ?_
    refine t_icmpYes (pc := 24) 45 X0.here hx (hb hby at_24) (by decide) (by decide) (by decide) ?_
    refine t_iloadN 46 X0.here hx (hb hby at_45) rfl rfl ?_
    refine X0.ldcInt hx hown (mvT hZ (w0 hw)) (g := (mkF m 46 #[vi p0, vi p1, vi 3, .unset, .unset, .unset] [(.int p0)])) rfl (hb hby at_46) _ ?_
    refine t_iand 49 X0.here hx (hb hby at_48) rfl rfl ?_
    refine X0.ldcInt hx hown (mvT hZ (w1 hw)) (g := (mkF m 49 #[vi p0, vi p1, vi 3, .unset, .unset, .unset] [(.int (p0 &&& (2147483647 : Int32)))])) rfl (hb hby at_49) _ ?_
    refine t_irem 52 (r := k) X0.here hx (hb hby at_51) (by decide) hk.symm rfl ?_
    refine t_istoreN (pc' := 53) (L' := #[vi p0, vi p1, vi 3, vi k, .unset, .unset]) X0.here hx (hb hby at_52) rfl rfl ?_
    refine t_iconst 54 (r := 2) X0.here hx (hb hby at_53) (by decide) rfl ?_
    refine t_iloadN 55 X0.here hx (hb hby at_54) rfl rfl ?_
    refine t_imul 56 X0.here hx (hb hby at_55) rfl rfl ?_
    refine t_iconst 57 (r := 1) X0.here hx (hb hby at_56) (by decide) rfl ?_
    refine t_iadd 58 X0.here hx (hb hby at_57) rfl rfl ?_
    refine t_i2d 59 (r := (FP.l2d ((((2 : Int32) * k) + (1 : Int32)).toInt64))) X0.here hx (hb hby at_58) (i2d_w _) rfl ?_
    refine X0.ldc2DoubleC hx hown (mvT hZ (w2 hw)) (g := (mkF m 59 #[vi p0, vi p1, vi 3, vi k, .unset, .unset] [(.double (FP.l2d ((((2 : Int32) * k) + (1 : Int32)).toInt64)))])) rfl (hb hby at_59) _ ?_
    refine t_ddiv 63 (r := (FP.ddiv (FP.l2d ((((2 : Int32) * k) + (1 : Int32)).toInt64)) (4730986895511650304 : UInt64))) X0.here hx (hb hby at_62) (Jvm.Free.Fl.ddiv_out (Jvm.Free.Fl.l2d_fin _).noNaN (by unfold Jvm.Free.Fl.Fin64; decide) (by unfold Jvm.Free.Fl.Nz64; decide)) rfl rfl ?_
    refine t_dstore (pc' := 65) (L' := #[vi p0, vi p1, vi 3, vi k, .val (.double (FP.ddiv (FP.l2d ((((2 : Int32) * k) + (1 : Int32)).toInt64)) (4730986895511650304 : UInt64))), .second]) X0.here hx (hb hby at_63) rfl rfl ?_
    refine t_dload 67 X0.here hx (hb hby at_65) rfl rfl ?_
    refine st1 _ ?_
    refine t_iloadN 71 X1.here hx (hb hby at_70) rfl rfl ?_
    refine st2 _ ?_
    refine t_icmpNo 77 X2.here hx (hb hby at_74) (by decide) rfl ?_
    refine t_iconst 78 (r := 1) X2.here hx (hb hby at_77) (by decide) rfl ?_
    refine t_goto (pc := 78) 82 X2.here hx (hb hby at_78) (by decide) (by decide) ?_
    exact retN X2 hx (t := .boolean) hret (by simp) (hb hby at_82) hr
theorem ef_law_3_3 (p0 p1 : Int32) (m : MethodId) : entryFrame m #[(.int p0), (.int p1)] maxLocals = mkF m 0 #[.val (.int p0), .val (.int p1), .unset, .unset, .unset, .unset] [] := by first | (simp [entryFrame, mkF, argsToLocals, Value.category, maxLocals]; done) | rfl
set_option maxRecDepth 65536 in
set_option maxHeartbeats 40000000 in
theorem law_3_3 (l : Launch) (Z : State) (a0 : Array Value) (hw : HW Z a0) (ws : List Jvm.Cond) (p0 p1 : Int32) (st_SIZES st_SHARES : Addr) (k_st_SIZES k_st_SHARES : ClassId) (h0 : Heap) (n0 : Nat) (Z0 : n0 ≤ h0.size) (hm : p1 &&& (3 : Int32) = (3 : Int32)) (hlo : ¬ (((p0 &&& (2147483647 : Int32)) - ((p0 &&& (2147483647 : Int32)) / (100000000 : Int32)) * (100000000 : Int32)) < (51760000 : Int32))) (hhi : ((p0 &&& (2147483647 : Int32)) - ((p0 &&& (2147483647 : Int32)) / (100000000 : Int32)) * (100000000 : Int32)) < (63440000 : Int32)) (S_SIZES : Sta Z Z.heap "com/example/bourse/bourse/workload/Model" "SIZES" "[I" (.ref st_SIZES)) (V_st_SIZES : Arv Z h0 st_SIZES k_st_SIZES .int 8 [(.int 1), (.int 2), (.int 4), (.int 8), (.int 16), (.int 32), (.int 64), (.int 128)] z0) (S_SHARES : Sta Z Z.heap "com/example/bourse/bourse/workload/Model" "SHARES" "[D" (.ref st_SHARES)) (V_st_SHARES : Arv Z h0 st_SHARES k_st_SHARES .double 8 [(.double (4598557124793677434 : UInt64)), (.double (4591942237660995650 : UInt64)), (.double (4594406607377092785 : UInt64)), (.double (4593080747646794911 : UInt64)), (.double (4592172821961917019 : UInt64)), (.double (4595552323122295839 : UInt64)), (.double (4589578748576551613 : UInt64)), (.double (4580268907426851324 : UInt64))] (.double (FP.l2d (0 : Int64)))) (O0 : Old Z n0 h0) :
    MetFree l x (head1 (Jvm.Cond.code x code maxLocals ret :: ws) room_1) (fun a U => a = #[(.int p0), (.int p1)] ∧ Z.Warmed39 U.vm ∧ U.heap = h0) (fun _ _ _ _ _ => True) (fun _ U o U' => ∃ v L, o = .returned v ∧ Q_law n0 v L ∧ FrameEnd U o U' L 0 0) := by
  refine own_law (y := x) (k := 0) (n := 0) (plainFor_of_name pn_ModelProcsPinLaw99) (ef_law_3_3 p0 p1) (by decide) (by decide) ?_
  intro p e s m below meth c s₁ hx hby hml hown hnm hret hZ hh e0 X0
  have N0 := Fr.nil n0
  obtain ⟨k, hk⟩ : ∃ z, z = ((p0 &&& (2147483647 : Int32)) - ((p0 &&& (2147483647 : Int32)) / (100000000 : Int32)) * (100000000 : Int32)) := ⟨_, rfl⟩
  have hk0 : 0 ≤ k.toInt := by rw [hk]; exact (own_rem8 p0).1
  have hk1 : k.toInt < 100000000 := by rw [hk]; exact (own_rem8 p0).2
  have hlo' : ¬ (k < (51760000 : Int32)) := by rw [hk]; exact hlo
  have hhi' : k < (63440000 : Int32) := by rw [hk]; exact hhi
  obtain ⟨_, T1, L1, X1, hQ1, st1⟩ := own_static X0 hx hZ hown (w3 hw) (w4 hw) (w5 hw) (w6 hw) (by decide) (r_procs3 l Z a0 hw [] st_SIZES st_SHARES (FP.ddiv (FP.l2d ((((2 : Int32) * k) + (1 : Int32)).toInt64)) (4730986895511650304 : UInt64)) k_st_SIZES k_st_SHARES h0 n0 Z0 S_SIZES O0 V_st_SIZES S_SHARES V_st_SHARES (own_ge0 hk0 hk1 (own_nlt hlo' (by decide))) (own_ge1 hk0 hk1 (own_nlt hlo' (by decide))) (own_ge2 hk0 hk1 (own_nlt hlo' (by decide))) (own_lt3 hk0 hk1 (own_lt hhi' (by decide)))) e0 (W := 0) (by decide) (g := (mkF m 67 #[vi p0, vi p1, vi 3, vi k, .val (.double (FP.ddiv (FP.l2d ((((2 : Int32) * k) + (1 : Int32)).toInt64)) (4730986895511650304 : UInt64))), .second] [(.double (FP.ddiv (FP.l2d ((((2 : Int32) * k) + (1 : Int32)).toInt64)) (4730986895511650304 : UInt64)))])) rfl (by rw [hml]; rfl) (argsL := [(.double (FP.ddiv (FP.l2d ((((2 : Int32) * k) + (1 : Int32)).toInt64)) (4730986895511650304 : UInt64)))]) (rest := []) (lenOf pd_0 rfl) rfl rfl (own_wr rfl rfl) (hb hby at_67)
  obtain ⟨rfl, N1q, e1⟩ := hQ1
  have N1 := Fr.app N0 N1q
  obtain ⟨_, T2, L2, X2, hQ2, st2⟩ := own_static X1 hx hZ hown (w11 hw) (w12 hw) (w13 hw) (w14 hw) (by decide) (r_exp3 l Z a0 hw [] k h0 n0 Z0 (own_nlt hlo' (by decide)) (own_nlt hlo' (by decide)) (own_nlt hlo' (by decide)) (own_lt hhi' (by decide))) e1 (W := 1) (by decide) (g := (mkF m 71 #[vi p0, vi p1, vi 3, vi k, .val (.double (FP.ddiv (FP.l2d ((((2 : Int32) * k) + (1 : Int32)).toInt64)) (4730986895511650304 : UInt64))), .second] [(.int k), (.int 8)])) rfl (by rw [hml]; rfl) (argsL := [(.int k)]) (rest := [(.int 8)]) (lenOf pd_1 rfl) rfl rfl (own_wr rfl rfl) (hb hby at_71)
  obtain ⟨rfl, N2q, e2⟩ := hQ2
  have N2 := Fr.app N1 N2q
  refine ⟨T2, _, some (.int 1), X2, (fun h => by cases h <;> rfl), ?_, fun fs hr => ?_⟩
  · show Q_law n0 _ _
    exact ⟨rfl, N2⟩
  · refine t_iloadN 1 X0.here hx (hb hby at_0) rfl rfl ?_
    refine t_iconst 2 (r := 3) X0.here hx (hb hby at_1) (by decide) rfl ?_
    refine t_iand 3 (r := 3) X0.here hx (hb hby at_2) hm rfl ?_
    refine t_istoreN (pc' := 4) (L' := #[vi p0, vi p1, vi 3, .unset, .unset, .unset]) X0.here hx (hb hby at_3) rfl rfl ?_
    refine t_iloadN 5 X0.here hx (hb hby at_4) rfl rfl ?_
    refine t_ifYes (pc := 5) 22 X0.here hx (hb hby at_5) (by decide) (by decide) (by decide) ?_
    refine t_iloadN 23 X0.here hx (hb hby at_22) rfl rfl ?_
    refine t_iconst 24 (r := 1) X0.here hx (hb hby at_23) (by decide) rfl ?_
    refine t_icmpYes (pc := 24) 45 X0.here hx (hb hby at_24) (by decide) (by decide) (by decide) ?_
    refine t_iloadN 46 X0.here hx (hb hby at_45) rfl rfl ?_
    refine X0.ldcInt hx hown (mvT hZ (w0 hw)) (g := (mkF m 46 #[vi p0, vi p1, vi 3, .unset, .unset, .unset] [(.int p0)])) rfl (hb hby at_46) _ ?_
    refine t_iand 49 X0.here hx (hb hby at_48) rfl rfl ?_
    refine X0.ldcInt hx hown (mvT hZ (w1 hw)) (g := (mkF m 49 #[vi p0, vi p1, vi 3, .unset, .unset, .unset] [(.int (p0 &&& (2147483647 : Int32)))])) rfl (hb hby at_49) _ ?_
    refine t_irem 52 (r := k) X0.here hx (hb hby at_51) (by decide) hk.symm rfl ?_
    refine t_istoreN (pc' := 53) (L' := #[vi p0, vi p1, vi 3, vi k, .unset, .unset]) X0.here hx (hb hby at_52) rfl rfl ?_
    refine t_iconst 54 (r := 2) X0.here hx (hb hby at_53) (by decide) rfl ?_
    refine t_iloadN 55 X0.here hx (hb hby at_54) rfl rfl ?_
    refine t_imul 56 X0.here hx (hb hby at_55) rfl rfl ?_
    refine t_iconst 57 (r := 1) X0.here hx (hb hby at_56) (by decide) rfl ?_
    refine t_iadd 58 X0.here hx (hb hby at_57) rfl rfl ?_
    refine t_i2d 59 (r := (FP.l2d ((((2 : Int32) * k) + (1 : Int32)).toInt64))) X0.here hx (hb hby at_58) (i2d_w _) rfl ?_
    refine X0.ldc2DoubleC hx hown (mvT hZ (w2 hw)) (g := (mkF m 59 #[vi p0, vi p1, vi 3, vi k, .unset, .unset] [(.double (FP.l2d ((((2 : Int32) * k) + (1 : Int32)).toInt64)))])) rfl (hb hby at_59) _ ?_
    refine t_ddiv 63 (r := (FP.ddiv (FP.l2d ((((2 : Int32) * k) + (1 : Int32)).toInt64)) (4730986895511650304 : UInt64))) X0.here hx (hb hby at_62) (Jvm.Free.Fl.ddiv_out (Jvm.Free.Fl.l2d_fin _).noNaN (by unfold Jvm.Free.Fl.Fin64; decide) (by unfold Jvm.Free.Fl.Nz64; decide)) rfl rfl ?_
    refine t_dstore (pc' := 65) (L' := #[vi p0, vi p1, vi 3, vi k, .val (.double (FP.ddiv (FP.l2d ((((2 : Int32) * k) + (1 : Int32)).toInt64)) (4730986895511650304 : UInt64))), .second]) X0.here hx (hb hby at_63) rfl rfl ?_
    refine t_dload 67 X0.here hx (hb hby at_65) rfl rfl ?_
    refine st1 _ ?_
    refine t_iloadN 71 X1.here hx (hb hby at_70) rfl rfl ?_
    refine st2 _ ?_
    refine t_icmpNo 77 X2.here hx (hb hby at_74) (by decide) rfl ?_
    refine t_iconst 78 (r := 1) X2.here hx (hb hby at_77) (by decide) rfl ?_
    refine t_goto (pc := 78) 82 X2.here hx (hb hby at_78) (by decide) (by decide) ?_
    exact retN X2 hx (t := .boolean) hret (by simp) (hb hby at_82) hr
theorem ef_law_3_4 (p0 p1 : Int32) (m : MethodId) : entryFrame m #[(.int p0), (.int p1)] maxLocals = mkF m 0 #[.val (.int p0), .val (.int p1), .unset, .unset, .unset, .unset] [] := by first | (simp [entryFrame, mkF, argsToLocals, Value.category, maxLocals]; done) | rfl
set_option maxRecDepth 65536 in
set_option maxHeartbeats 40000000 in
theorem law_3_4 (l : Launch) (Z : State) (a0 : Array Value) (hw : HW Z a0) (ws : List Jvm.Cond) (p0 p1 : Int32) (st_SIZES st_SHARES : Addr) (k_st_SIZES k_st_SHARES : ClassId) (h0 : Heap) (n0 : Nat) (Z0 : n0 ≤ h0.size) (hm : p1 &&& (3 : Int32) = (3 : Int32)) (hlo : ¬ (((p0 &&& (2147483647 : Int32)) - ((p0 &&& (2147483647 : Int32)) / (100000000 : Int32)) * (100000000 : Int32)) < (63440000 : Int32))) (hhi : ((p0 &&& (2147483647 : Int32)) - ((p0 &&& (2147483647 : Int32)) / (100000000 : Int32)) * (100000000 : Int32)) < (73860000 : Int32)) (S_SIZES : Sta Z Z.heap "com/example/bourse/bourse/workload/Model" "SIZES" "[I" (.ref st_SIZES)) (V_st_SIZES : Arv Z h0 st_SIZES k_st_SIZES .int 8 [(.int 1), (.int 2), (.int 4), (.int 8), (.int 16), (.int 32), (.int 64), (.int 128)] z0) (S_SHARES : Sta Z Z.heap "com/example/bourse/bourse/workload/Model" "SHARES" "[D" (.ref st_SHARES)) (V_st_SHARES : Arv Z h0 st_SHARES k_st_SHARES .double 8 [(.double (4598557124793677434 : UInt64)), (.double (4591942237660995650 : UInt64)), (.double (4594406607377092785 : UInt64)), (.double (4593080747646794911 : UInt64)), (.double (4592172821961917019 : UInt64)), (.double (4595552323122295839 : UInt64)), (.double (4589578748576551613 : UInt64)), (.double (4580268907426851324 : UInt64))] (.double (FP.l2d (0 : Int64)))) (O0 : Old Z n0 h0) :
    MetFree l x (head1 (Jvm.Cond.code x code maxLocals ret :: ws) room_1) (fun a U => a = #[(.int p0), (.int p1)] ∧ Z.Warmed39 U.vm ∧ U.heap = h0) (fun _ _ _ _ _ => True) (fun _ U o U' => ∃ v L, o = .returned v ∧ Q_law n0 v L ∧ FrameEnd U o U' L 0 0) := by
  refine own_law (y := x) (k := 0) (n := 0) (plainFor_of_name pn_ModelProcsPinLaw99) (ef_law_3_4 p0 p1) (by decide) (by decide) ?_
  intro p e s m below meth c s₁ hx hby hml hown hnm hret hZ hh e0 X0
  have N0 := Fr.nil n0
  obtain ⟨k, hk⟩ : ∃ z, z = ((p0 &&& (2147483647 : Int32)) - ((p0 &&& (2147483647 : Int32)) / (100000000 : Int32)) * (100000000 : Int32)) := ⟨_, rfl⟩
  have hk0 : 0 ≤ k.toInt := by rw [hk]; exact (own_rem8 p0).1
  have hk1 : k.toInt < 100000000 := by rw [hk]; exact (own_rem8 p0).2
  have hlo' : ¬ (k < (63440000 : Int32)) := by rw [hk]; exact hlo
  have hhi' : k < (73860000 : Int32) := by rw [hk]; exact hhi
  obtain ⟨_, T1, L1, X1, hQ1, st1⟩ := own_static X0 hx hZ hown (w3 hw) (w4 hw) (w5 hw) (w6 hw) (by decide) (r_procs4 l Z a0 hw [] st_SIZES st_SHARES (FP.ddiv (FP.l2d ((((2 : Int32) * k) + (1 : Int32)).toInt64)) (4730986895511650304 : UInt64)) k_st_SIZES k_st_SHARES h0 n0 Z0 S_SIZES O0 V_st_SIZES S_SHARES V_st_SHARES (own_ge0 hk0 hk1 (own_nlt hlo' (by decide))) (own_ge1 hk0 hk1 (own_nlt hlo' (by decide))) (own_ge2 hk0 hk1 (own_nlt hlo' (by decide))) (own_ge3 hk0 hk1 (own_nlt hlo' (by decide))) (own_lt4 hk0 hk1 (own_lt hhi' (by decide)))) e0 (W := 0) (by decide) (g := (mkF m 67 #[vi p0, vi p1, vi 3, vi k, .val (.double (FP.ddiv (FP.l2d ((((2 : Int32) * k) + (1 : Int32)).toInt64)) (4730986895511650304 : UInt64))), .second] [(.double (FP.ddiv (FP.l2d ((((2 : Int32) * k) + (1 : Int32)).toInt64)) (4730986895511650304 : UInt64)))])) rfl (by rw [hml]; rfl) (argsL := [(.double (FP.ddiv (FP.l2d ((((2 : Int32) * k) + (1 : Int32)).toInt64)) (4730986895511650304 : UInt64)))]) (rest := []) (lenOf pd_0 rfl) rfl rfl (own_wr rfl rfl) (hb hby at_67)
  obtain ⟨rfl, N1q, e1⟩ := hQ1
  have N1 := Fr.app N0 N1q
  obtain ⟨_, T2, L2, X2, hQ2, st2⟩ := own_static X1 hx hZ hown (w11 hw) (w12 hw) (w13 hw) (w14 hw) (by decide) (r_exp4 l Z a0 hw [] k h0 n0 Z0 (own_nlt hlo' (by decide)) (own_nlt hlo' (by decide)) (own_nlt hlo' (by decide)) (own_nlt hlo' (by decide)) (own_lt hhi' (by decide))) e1 (W := 1) (by decide) (g := (mkF m 71 #[vi p0, vi p1, vi 3, vi k, .val (.double (FP.ddiv (FP.l2d ((((2 : Int32) * k) + (1 : Int32)).toInt64)) (4730986895511650304 : UInt64))), .second] [(.int k), (.int 16)])) rfl (by rw [hml]; rfl) (argsL := [(.int k)]) (rest := [(.int 16)]) (lenOf pd_1 rfl) rfl rfl (own_wr rfl rfl) (hb hby at_71)
  obtain ⟨rfl, N2q, e2⟩ := hQ2
  have N2 := Fr.app N1 N2q
  refine ⟨T2, _, some (.int 1), X2, (fun h => by cases h <;> rfl), ?_, fun fs hr => ?_⟩
  · show Q_law n0 _ _
    exact ⟨rfl, N2⟩
  · refine t_iloadN 1 X0.here hx (hb hby at_0) rfl rfl ?_
    refine t_iconst 2 (r := 3) X0.here hx (hb hby at_1) (by decide) rfl ?_
    refine t_iand 3 (r := 3) X0.here hx (hb hby at_2) hm rfl ?_
    refine t_istoreN (pc' := 4) (L' := #[vi p0, vi p1, vi 3, .unset, .unset, .unset]) X0.here hx (hb hby at_3) rfl rfl ?_
    refine t_iloadN 5 X0.here hx (hb hby at_4) rfl rfl ?_
    refine t_ifYes (pc := 5) 22 X0.here hx (hb hby at_5) (by decide) (by decide) (by decide) ?_
    refine t_iloadN 23 X0.here hx (hb hby at_22) rfl rfl ?_
    refine t_iconst 24 (r := 1) X0.here hx (hb hby at_23) (by decide) rfl ?_
    refine t_icmpYes (pc := 24) 45 X0.here hx (hb hby at_24) (by decide) (by decide) (by decide) ?_
    refine t_iloadN 46 X0.here hx (hb hby at_45) rfl rfl ?_
    refine X0.ldcInt hx hown (mvT hZ (w0 hw)) (g := (mkF m 46 #[vi p0, vi p1, vi 3, .unset, .unset, .unset] [(.int p0)])) rfl (hb hby at_46) _ ?_
    refine t_iand 49 X0.here hx (hb hby at_48) rfl rfl ?_
    refine X0.ldcInt hx hown (mvT hZ (w1 hw)) (g := (mkF m 49 #[vi p0, vi p1, vi 3, .unset, .unset, .unset] [(.int (p0 &&& (2147483647 : Int32)))])) rfl (hb hby at_49) _ ?_
    refine t_irem 52 (r := k) X0.here hx (hb hby at_51) (by decide) hk.symm rfl ?_
    refine t_istoreN (pc' := 53) (L' := #[vi p0, vi p1, vi 3, vi k, .unset, .unset]) X0.here hx (hb hby at_52) rfl rfl ?_
    refine t_iconst 54 (r := 2) X0.here hx (hb hby at_53) (by decide) rfl ?_
    refine t_iloadN 55 X0.here hx (hb hby at_54) rfl rfl ?_
    refine t_imul 56 X0.here hx (hb hby at_55) rfl rfl ?_
    refine t_iconst 57 (r := 1) X0.here hx (hb hby at_56) (by decide) rfl ?_
    refine t_iadd 58 X0.here hx (hb hby at_57) rfl rfl ?_
    refine t_i2d 59 (r := (FP.l2d ((((2 : Int32) * k) + (1 : Int32)).toInt64))) X0.here hx (hb hby at_58) (i2d_w _) rfl ?_
    refine X0.ldc2DoubleC hx hown (mvT hZ (w2 hw)) (g := (mkF m 59 #[vi p0, vi p1, vi 3, vi k, .unset, .unset] [(.double (FP.l2d ((((2 : Int32) * k) + (1 : Int32)).toInt64)))])) rfl (hb hby at_59) _ ?_
    refine t_ddiv 63 (r := (FP.ddiv (FP.l2d ((((2 : Int32) * k) + (1 : Int32)).toInt64)) (4730986895511650304 : UInt64))) X0.here hx (hb hby at_62) (Jvm.Free.Fl.ddiv_out (Jvm.Free.Fl.l2d_fin _).noNaN (by unfold Jvm.Free.Fl.Fin64; decide) (by unfold Jvm.Free.Fl.Nz64; decide)) rfl rfl ?_
    refine t_dstore (pc' := 65) (L' := #[vi p0, vi p1, vi 3, vi k, .val (.double (FP.ddiv (FP.l2d ((((2 : Int32) * k) + (1 : Int32)).toInt64)) (4730986895511650304 : UInt64))), .second]) X0.here hx (hb hby at_63) rfl rfl ?_
    refine t_dload 67 X0.here hx (hb hby at_65) rfl rfl ?_
    refine st1 _ ?_
    refine t_iloadN 71 X1.here hx (hb hby at_70) rfl rfl ?_
    refine st2 _ ?_
    refine t_icmpNo 77 X2.here hx (hb hby at_74) (by decide) rfl ?_
    refine t_iconst 78 (r := 1) X2.here hx (hb hby at_77) (by decide) rfl ?_
    refine t_goto (pc := 78) 82 X2.here hx (hb hby at_78) (by decide) (by decide) ?_
    exact retN X2 hx (t := .boolean) hret (by simp) (hb hby at_82) hr
theorem ef_law_3_5 (p0 p1 : Int32) (m : MethodId) : entryFrame m #[(.int p0), (.int p1)] maxLocals = mkF m 0 #[.val (.int p0), .val (.int p1), .unset, .unset, .unset, .unset] [] := by first | (simp [entryFrame, mkF, argsToLocals, Value.category, maxLocals]; done) | rfl
set_option maxRecDepth 65536 in
set_option maxHeartbeats 40000000 in
theorem law_3_5 (l : Launch) (Z : State) (a0 : Array Value) (hw : HW Z a0) (ws : List Jvm.Cond) (p0 p1 : Int32) (st_SIZES st_SHARES : Addr) (k_st_SIZES k_st_SHARES : ClassId) (h0 : Heap) (n0 : Nat) (Z0 : n0 ≤ h0.size) (hm : p1 &&& (3 : Int32) = (3 : Int32)) (hlo : ¬ (((p0 &&& (2147483647 : Int32)) - ((p0 &&& (2147483647 : Int32)) / (100000000 : Int32)) * (100000000 : Int32)) < (73860000 : Int32))) (hhi : ((p0 &&& (2147483647 : Int32)) - ((p0 &&& (2147483647 : Int32)) / (100000000 : Int32)) * (100000000 : Int32)) < (91580000 : Int32)) (S_SIZES : Sta Z Z.heap "com/example/bourse/bourse/workload/Model" "SIZES" "[I" (.ref st_SIZES)) (V_st_SIZES : Arv Z h0 st_SIZES k_st_SIZES .int 8 [(.int 1), (.int 2), (.int 4), (.int 8), (.int 16), (.int 32), (.int 64), (.int 128)] z0) (S_SHARES : Sta Z Z.heap "com/example/bourse/bourse/workload/Model" "SHARES" "[D" (.ref st_SHARES)) (V_st_SHARES : Arv Z h0 st_SHARES k_st_SHARES .double 8 [(.double (4598557124793677434 : UInt64)), (.double (4591942237660995650 : UInt64)), (.double (4594406607377092785 : UInt64)), (.double (4593080747646794911 : UInt64)), (.double (4592172821961917019 : UInt64)), (.double (4595552323122295839 : UInt64)), (.double (4589578748576551613 : UInt64)), (.double (4580268907426851324 : UInt64))] (.double (FP.l2d (0 : Int64)))) (O0 : Old Z n0 h0) :
    MetFree l x (head1 (Jvm.Cond.code x code maxLocals ret :: ws) room_1) (fun a U => a = #[(.int p0), (.int p1)] ∧ Z.Warmed39 U.vm ∧ U.heap = h0) (fun _ _ _ _ _ => True) (fun _ U o U' => ∃ v L, o = .returned v ∧ Q_law n0 v L ∧ FrameEnd U o U' L 0 0) := by
  refine own_law (y := x) (k := 0) (n := 0) (plainFor_of_name pn_ModelProcsPinLaw99) (ef_law_3_5 p0 p1) (by decide) (by decide) ?_
  intro p e s m below meth c s₁ hx hby hml hown hnm hret hZ hh e0 X0
  have N0 := Fr.nil n0
  obtain ⟨k, hk⟩ : ∃ z, z = ((p0 &&& (2147483647 : Int32)) - ((p0 &&& (2147483647 : Int32)) / (100000000 : Int32)) * (100000000 : Int32)) := ⟨_, rfl⟩
  have hk0 : 0 ≤ k.toInt := by rw [hk]; exact (own_rem8 p0).1
  have hk1 : k.toInt < 100000000 := by rw [hk]; exact (own_rem8 p0).2
  have hlo' : ¬ (k < (73860000 : Int32)) := by rw [hk]; exact hlo
  have hhi' : k < (91580000 : Int32) := by rw [hk]; exact hhi
  obtain ⟨_, T1, L1, X1, hQ1, st1⟩ := own_static X0 hx hZ hown (w3 hw) (w4 hw) (w5 hw) (w6 hw) (by decide) (r_procs5 l Z a0 hw [] st_SIZES st_SHARES (FP.ddiv (FP.l2d ((((2 : Int32) * k) + (1 : Int32)).toInt64)) (4730986895511650304 : UInt64)) k_st_SIZES k_st_SHARES h0 n0 Z0 S_SIZES O0 V_st_SIZES S_SHARES V_st_SHARES (own_ge0 hk0 hk1 (own_nlt hlo' (by decide))) (own_ge1 hk0 hk1 (own_nlt hlo' (by decide))) (own_ge2 hk0 hk1 (own_nlt hlo' (by decide))) (own_ge3 hk0 hk1 (own_nlt hlo' (by decide))) (own_ge4 hk0 hk1 (own_nlt hlo' (by decide))) (own_lt5 hk0 hk1 (own_lt hhi' (by decide)))) e0 (W := 0) (by decide) (g := (mkF m 67 #[vi p0, vi p1, vi 3, vi k, .val (.double (FP.ddiv (FP.l2d ((((2 : Int32) * k) + (1 : Int32)).toInt64)) (4730986895511650304 : UInt64))), .second] [(.double (FP.ddiv (FP.l2d ((((2 : Int32) * k) + (1 : Int32)).toInt64)) (4730986895511650304 : UInt64)))])) rfl (by rw [hml]; rfl) (argsL := [(.double (FP.ddiv (FP.l2d ((((2 : Int32) * k) + (1 : Int32)).toInt64)) (4730986895511650304 : UInt64)))]) (rest := []) (lenOf pd_0 rfl) rfl rfl (own_wr rfl rfl) (hb hby at_67)
  obtain ⟨rfl, N1q, e1⟩ := hQ1
  have N1 := Fr.app N0 N1q
  obtain ⟨_, T2, L2, X2, hQ2, st2⟩ := own_static X1 hx hZ hown (w11 hw) (w12 hw) (w13 hw) (w14 hw) (by decide) (r_exp5 l Z a0 hw [] k h0 n0 Z0 (own_nlt hlo' (by decide)) (own_nlt hlo' (by decide)) (own_nlt hlo' (by decide)) (own_nlt hlo' (by decide)) (own_nlt hlo' (by decide)) (own_lt hhi' (by decide))) e1 (W := 1) (by decide) (g := (mkF m 71 #[vi p0, vi p1, vi 3, vi k, .val (.double (FP.ddiv (FP.l2d ((((2 : Int32) * k) + (1 : Int32)).toInt64)) (4730986895511650304 : UInt64))), .second] [(.int k), (.int 32)])) rfl (by rw [hml]; rfl) (argsL := [(.int k)]) (rest := [(.int 32)]) (lenOf pd_1 rfl) rfl rfl (own_wr rfl rfl) (hb hby at_71)
  obtain ⟨rfl, N2q, e2⟩ := hQ2
  have N2 := Fr.app N1 N2q
  refine ⟨T2, _, some (.int 1), X2, (fun h => by cases h <;> rfl), ?_, fun fs hr => ?_⟩
  · show Q_law n0 _ _
    exact ⟨rfl, N2⟩
  · refine t_iloadN 1 X0.here hx (hb hby at_0) rfl rfl ?_
    refine t_iconst 2 (r := 3) X0.here hx (hb hby at_1) (by decide) rfl ?_
    refine t_iand 3 (r := 3) X0.here hx (hb hby at_2) hm rfl ?_
    refine t_istoreN (pc' := 4) (L' := #[vi p0, vi p1, vi 3, .unset, .unset, .unset]) X0.here hx (hb hby at_3) rfl rfl ?_
    refine t_iloadN 5 X0.here hx (hb hby at_4) rfl rfl ?_
    refine t_ifYes (pc := 5) 22 X0.here hx (hb hby at_5) (by decide) (by decide) (by decide) ?_
    refine t_iloadN 23 X0.here hx (hb hby at_22) rfl rfl ?_
    refine t_iconst 24 (r := 1) X0.here hx (hb hby at_23) (by decide) rfl ?_
    refine t_icmpYes (pc := 24) 45 X0.here hx (hb hby at_24) (by decide) (by decide) (by decide) ?_
    refine t_iloadN 46 X0.here hx (hb hby at_45) rfl rfl ?_
    refine X0.ldcInt hx hown (mvT hZ (w0 hw)) (g := (mkF m 46 #[vi p0, vi p1, vi 3, .unset, .unset, .unset] [(.int p0)])) rfl (hb hby at_46) _ ?_
    refine t_iand 49 X0.here hx (hb hby at_48) rfl rfl ?_
    refine X0.ldcInt hx hown (mvT hZ (w1 hw)) (g := (mkF m 49 #[vi p0, vi p1, vi 3, .unset, .unset, .unset] [(.int (p0 &&& (2147483647 : Int32)))])) rfl (hb hby at_49) _ ?_
    refine t_irem 52 (r := k) X0.here hx (hb hby at_51) (by decide) hk.symm rfl ?_
    refine t_istoreN (pc' := 53) (L' := #[vi p0, vi p1, vi 3, vi k, .unset, .unset]) X0.here hx (hb hby at_52) rfl rfl ?_
    refine t_iconst 54 (r := 2) X0.here hx (hb hby at_53) (by decide) rfl ?_
    refine t_iloadN 55 X0.here hx (hb hby at_54) rfl rfl ?_
    refine t_imul 56 X0.here hx (hb hby at_55) rfl rfl ?_
    refine t_iconst 57 (r := 1) X0.here hx (hb hby at_56) (by decide) rfl ?_
    refine t_iadd 58 X0.here hx (hb hby at_57) rfl rfl ?_
    refine t_i2d 59 (r := (FP.l2d ((((2 : Int32) * k) + (1 : Int32)).toInt64))) X0.here hx (hb hby at_58) (i2d_w _) rfl ?_
    refine X0.ldc2DoubleC hx hown (mvT hZ (w2 hw)) (g := (mkF m 59 #[vi p0, vi p1, vi 3, vi k, .unset, .unset] [(.double (FP.l2d ((((2 : Int32) * k) + (1 : Int32)).toInt64)))])) rfl (hb hby at_59) _ ?_
    refine t_ddiv 63 (r := (FP.ddiv (FP.l2d ((((2 : Int32) * k) + (1 : Int32)).toInt64)) (4730986895511650304 : UInt64))) X0.here hx (hb hby at_62) (Jvm.Free.Fl.ddiv_out (Jvm.Free.Fl.l2d_fin _).noNaN (by unfold Jvm.Free.Fl.Fin64; decide) (by unfold Jvm.Free.Fl.Nz64; decide)) rfl rfl ?_
    refine t_dstore (pc' := 65) (L' := #[vi p0, vi p1, vi 3, vi k, .val (.double (FP.ddiv (FP.l2d ((((2 : Int32) * k) + (1 : Int32)).toInt64)) (4730986895511650304 : UInt64))), .second]) X0.here hx (hb hby at_63) rfl rfl ?_
    refine t_dload 67 X0.here hx (hb hby at_65) rfl rfl ?_
    refine st1 _ ?_
    refine t_iloadN 71 X1.here hx (hb hby at_70) rfl rfl ?_
    refine st2 _ ?_
    refine t_icmpNo 77 X2.here hx (hb hby at_74) (by decide) rfl ?_
    refine t_iconst 78 (r := 1) X2.here hx (hb hby at_77) (by decide) rfl ?_
    refine t_goto (pc := 78) 82 X2.here hx (hb hby at_78) (by decide) (by decide) ?_
    exact retN X2 hx (t := .boolean) hret (by simp) (hb hby at_82) hr
theorem ef_law_3_6 (p0 p1 : Int32) (m : MethodId) : entryFrame m #[(.int p0), (.int p1)] maxLocals = mkF m 0 #[.val (.int p0), .val (.int p1), .unset, .unset, .unset, .unset] [] := by first | (simp [entryFrame, mkF, argsToLocals, Value.category, maxLocals]; done) | rfl
set_option maxRecDepth 65536 in
set_option maxHeartbeats 40000000 in
theorem law_3_6 (l : Launch) (Z : State) (a0 : Array Value) (hw : HW Z a0) (ws : List Jvm.Cond) (p0 p1 : Int32) (st_SIZES st_SHARES : Addr) (k_st_SIZES k_st_SHARES : ClassId) (h0 : Heap) (n0 : Nat) (Z0 : n0 ≤ h0.size) (hm : p1 &&& (3 : Int32) = (3 : Int32)) (hlo : ¬ (((p0 &&& (2147483647 : Int32)) - ((p0 &&& (2147483647 : Int32)) / (100000000 : Int32)) * (100000000 : Int32)) < (91580000 : Int32))) (hhi : ((p0 &&& (2147483647 : Int32)) - ((p0 &&& (2147483647 : Int32)) / (100000000 : Int32)) * (100000000 : Int32)) < (98400000 : Int32)) (S_SIZES : Sta Z Z.heap "com/example/bourse/bourse/workload/Model" "SIZES" "[I" (.ref st_SIZES)) (V_st_SIZES : Arv Z h0 st_SIZES k_st_SIZES .int 8 [(.int 1), (.int 2), (.int 4), (.int 8), (.int 16), (.int 32), (.int 64), (.int 128)] z0) (S_SHARES : Sta Z Z.heap "com/example/bourse/bourse/workload/Model" "SHARES" "[D" (.ref st_SHARES)) (V_st_SHARES : Arv Z h0 st_SHARES k_st_SHARES .double 8 [(.double (4598557124793677434 : UInt64)), (.double (4591942237660995650 : UInt64)), (.double (4594406607377092785 : UInt64)), (.double (4593080747646794911 : UInt64)), (.double (4592172821961917019 : UInt64)), (.double (4595552323122295839 : UInt64)), (.double (4589578748576551613 : UInt64)), (.double (4580268907426851324 : UInt64))] (.double (FP.l2d (0 : Int64)))) (O0 : Old Z n0 h0) :
    MetFree l x (head1 (Jvm.Cond.code x code maxLocals ret :: ws) room_1) (fun a U => a = #[(.int p0), (.int p1)] ∧ Z.Warmed39 U.vm ∧ U.heap = h0) (fun _ _ _ _ _ => True) (fun _ U o U' => ∃ v L, o = .returned v ∧ Q_law n0 v L ∧ FrameEnd U o U' L 0 0) := by
  refine own_law (y := x) (k := 0) (n := 0) (plainFor_of_name pn_ModelProcsPinLaw99) (ef_law_3_6 p0 p1) (by decide) (by decide) ?_
  intro p e s m below meth c s₁ hx hby hml hown hnm hret hZ hh e0 X0
  have N0 := Fr.nil n0
  obtain ⟨k, hk⟩ : ∃ z, z = ((p0 &&& (2147483647 : Int32)) - ((p0 &&& (2147483647 : Int32)) / (100000000 : Int32)) * (100000000 : Int32)) := ⟨_, rfl⟩
  have hk0 : 0 ≤ k.toInt := by rw [hk]; exact (own_rem8 p0).1
  have hk1 : k.toInt < 100000000 := by rw [hk]; exact (own_rem8 p0).2
  have hlo' : ¬ (k < (91580000 : Int32)) := by rw [hk]; exact hlo
  have hhi' : k < (98400000 : Int32) := by rw [hk]; exact hhi
  obtain ⟨_, T1, L1, X1, hQ1, st1⟩ := own_static X0 hx hZ hown (w3 hw) (w4 hw) (w5 hw) (w6 hw) (by decide) (r_procs6 l Z a0 hw [] st_SIZES st_SHARES (FP.ddiv (FP.l2d ((((2 : Int32) * k) + (1 : Int32)).toInt64)) (4730986895511650304 : UInt64)) k_st_SIZES k_st_SHARES h0 n0 Z0 S_SIZES O0 V_st_SIZES S_SHARES V_st_SHARES (own_ge0 hk0 hk1 (own_nlt hlo' (by decide))) (own_ge1 hk0 hk1 (own_nlt hlo' (by decide))) (own_ge2 hk0 hk1 (own_nlt hlo' (by decide))) (own_ge3 hk0 hk1 (own_nlt hlo' (by decide))) (own_ge4 hk0 hk1 (own_nlt hlo' (by decide))) (own_ge5 hk0 hk1 (own_nlt hlo' (by decide))) (own_lt6 hk0 hk1 (own_lt hhi' (by decide)))) e0 (W := 0) (by decide) (g := (mkF m 67 #[vi p0, vi p1, vi 3, vi k, .val (.double (FP.ddiv (FP.l2d ((((2 : Int32) * k) + (1 : Int32)).toInt64)) (4730986895511650304 : UInt64))), .second] [(.double (FP.ddiv (FP.l2d ((((2 : Int32) * k) + (1 : Int32)).toInt64)) (4730986895511650304 : UInt64)))])) rfl (by rw [hml]; rfl) (argsL := [(.double (FP.ddiv (FP.l2d ((((2 : Int32) * k) + (1 : Int32)).toInt64)) (4730986895511650304 : UInt64)))]) (rest := []) (lenOf pd_0 rfl) rfl rfl (own_wr rfl rfl) (hb hby at_67)
  obtain ⟨rfl, N1q, e1⟩ := hQ1
  have N1 := Fr.app N0 N1q
  obtain ⟨_, T2, L2, X2, hQ2, st2⟩ := own_static X1 hx hZ hown (w11 hw) (w12 hw) (w13 hw) (w14 hw) (by decide) (r_exp6 l Z a0 hw [] k h0 n0 Z0 (own_nlt hlo' (by decide)) (own_nlt hlo' (by decide)) (own_nlt hlo' (by decide)) (own_nlt hlo' (by decide)) (own_nlt hlo' (by decide)) (own_nlt hlo' (by decide)) (own_lt hhi' (by decide))) e1 (W := 1) (by decide) (g := (mkF m 71 #[vi p0, vi p1, vi 3, vi k, .val (.double (FP.ddiv (FP.l2d ((((2 : Int32) * k) + (1 : Int32)).toInt64)) (4730986895511650304 : UInt64))), .second] [(.int k), (.int 64)])) rfl (by rw [hml]; rfl) (argsL := [(.int k)]) (rest := [(.int 64)]) (lenOf pd_1 rfl) rfl rfl (own_wr rfl rfl) (hb hby at_71)
  obtain ⟨rfl, N2q, e2⟩ := hQ2
  have N2 := Fr.app N1 N2q
  refine ⟨T2, _, some (.int 1), X2, (fun h => by cases h <;> rfl), ?_, fun fs hr => ?_⟩
  · show Q_law n0 _ _
    exact ⟨rfl, N2⟩
  · refine t_iloadN 1 X0.here hx (hb hby at_0) rfl rfl ?_
    refine t_iconst 2 (r := 3) X0.here hx (hb hby at_1) (by decide) rfl ?_
    refine t_iand 3 (r := 3) X0.here hx (hb hby at_2) hm rfl ?_
    refine t_istoreN (pc' := 4) (L' := #[vi p0, vi p1, vi 3, .unset, .unset, .unset]) X0.here hx (hb hby at_3) rfl rfl ?_
    refine t_iloadN 5 X0.here hx (hb hby at_4) rfl rfl ?_
    refine t_ifYes (pc := 5) 22 X0.here hx (hb hby at_5) (by decide) (by decide) (by decide) ?_
    refine t_iloadN 23 X0.here hx (hb hby at_22) rfl rfl ?_
    refine t_iconst 24 (r := 1) X0.here hx (hb hby at_23) (by decide) rfl ?_
    refine t_icmpYes (pc := 24) 45 X0.here hx (hb hby at_24) (by decide) (by decide) (by decide) ?_
    refine t_iloadN 46 X0.here hx (hb hby at_45) rfl rfl ?_
    refine X0.ldcInt hx hown (mvT hZ (w0 hw)) (g := (mkF m 46 #[vi p0, vi p1, vi 3, .unset, .unset, .unset] [(.int p0)])) rfl (hb hby at_46) _ ?_
    refine t_iand 49 X0.here hx (hb hby at_48) rfl rfl ?_
    refine X0.ldcInt hx hown (mvT hZ (w1 hw)) (g := (mkF m 49 #[vi p0, vi p1, vi 3, .unset, .unset, .unset] [(.int (p0 &&& (2147483647 : Int32)))])) rfl (hb hby at_49) _ ?_
    refine t_irem 52 (r := k) X0.here hx (hb hby at_51) (by decide) hk.symm rfl ?_
    refine t_istoreN (pc' := 53) (L' := #[vi p0, vi p1, vi 3, vi k, .unset, .unset]) X0.here hx (hb hby at_52) rfl rfl ?_
    refine t_iconst 54 (r := 2) X0.here hx (hb hby at_53) (by decide) rfl ?_
    refine t_iloadN 55 X0.here hx (hb hby at_54) rfl rfl ?_
    refine t_imul 56 X0.here hx (hb hby at_55) rfl rfl ?_
    refine t_iconst 57 (r := 1) X0.here hx (hb hby at_56) (by decide) rfl ?_
    refine t_iadd 58 X0.here hx (hb hby at_57) rfl rfl ?_
    refine t_i2d 59 (r := (FP.l2d ((((2 : Int32) * k) + (1 : Int32)).toInt64))) X0.here hx (hb hby at_58) (i2d_w _) rfl ?_
    refine X0.ldc2DoubleC hx hown (mvT hZ (w2 hw)) (g := (mkF m 59 #[vi p0, vi p1, vi 3, vi k, .unset, .unset] [(.double (FP.l2d ((((2 : Int32) * k) + (1 : Int32)).toInt64)))])) rfl (hb hby at_59) _ ?_
    refine t_ddiv 63 (r := (FP.ddiv (FP.l2d ((((2 : Int32) * k) + (1 : Int32)).toInt64)) (4730986895511650304 : UInt64))) X0.here hx (hb hby at_62) (Jvm.Free.Fl.ddiv_out (Jvm.Free.Fl.l2d_fin _).noNaN (by unfold Jvm.Free.Fl.Fin64; decide) (by unfold Jvm.Free.Fl.Nz64; decide)) rfl rfl ?_
    refine t_dstore (pc' := 65) (L' := #[vi p0, vi p1, vi 3, vi k, .val (.double (FP.ddiv (FP.l2d ((((2 : Int32) * k) + (1 : Int32)).toInt64)) (4730986895511650304 : UInt64))), .second]) X0.here hx (hb hby at_63) rfl rfl ?_
    refine t_dload 67 X0.here hx (hb hby at_65) rfl rfl ?_
    refine st1 _ ?_
    refine t_iloadN 71 X1.here hx (hb hby at_70) rfl rfl ?_
    refine st2 _ ?_
    refine t_icmpNo 77 X2.here hx (hb hby at_74) (by decide) rfl ?_
    refine t_iconst 78 (r := 1) X2.here hx (hb hby at_77) (by decide) rfl ?_
    refine t_goto (pc := 78) 82 X2.here hx (hb hby at_78) (by decide) (by decide) ?_
    exact retN X2 hx (t := .boolean) hret (by simp) (hb hby at_82) hr
theorem ef_law_3_7 (p0 p1 : Int32) (m : MethodId) : entryFrame m #[(.int p0), (.int p1)] maxLocals = mkF m 0 #[.val (.int p0), .val (.int p1), .unset, .unset, .unset, .unset] [] := by first | (simp [entryFrame, mkF, argsToLocals, Value.category, maxLocals]; done) | rfl
set_option maxRecDepth 65536 in
set_option maxHeartbeats 40000000 in
theorem law_3_7 (l : Launch) (Z : State) (a0 : Array Value) (hw : HW Z a0) (ws : List Jvm.Cond) (p0 p1 : Int32) (st_SIZES st_SHARES : Addr) (k_st_SIZES k_st_SHARES : ClassId) (h0 : Heap) (n0 : Nat) (Z0 : n0 ≤ h0.size) (hm : p1 &&& (3 : Int32) = (3 : Int32)) (hlo : ¬ (((p0 &&& (2147483647 : Int32)) - ((p0 &&& (2147483647 : Int32)) / (100000000 : Int32)) * (100000000 : Int32)) < (98400000 : Int32))) (S_SIZES : Sta Z Z.heap "com/example/bourse/bourse/workload/Model" "SIZES" "[I" (.ref st_SIZES)) (V_st_SIZES : Arv Z h0 st_SIZES k_st_SIZES .int 8 [(.int 1), (.int 2), (.int 4), (.int 8), (.int 16), (.int 32), (.int 64), (.int 128)] z0) (S_SHARES : Sta Z Z.heap "com/example/bourse/bourse/workload/Model" "SHARES" "[D" (.ref st_SHARES)) (V_st_SHARES : Arv Z h0 st_SHARES k_st_SHARES .double 8 [(.double (4598557124793677434 : UInt64)), (.double (4591942237660995650 : UInt64)), (.double (4594406607377092785 : UInt64)), (.double (4593080747646794911 : UInt64)), (.double (4592172821961917019 : UInt64)), (.double (4595552323122295839 : UInt64)), (.double (4589578748576551613 : UInt64)), (.double (4580268907426851324 : UInt64))] (.double (FP.l2d (0 : Int64)))) (O0 : Old Z n0 h0) :
    MetFree l x (head1 (Jvm.Cond.code x code maxLocals ret :: ws) room_1) (fun a U => a = #[(.int p0), (.int p1)] ∧ Z.Warmed39 U.vm ∧ U.heap = h0) (fun _ _ _ _ _ => True) (fun _ U o U' => ∃ v L, o = .returned v ∧ Q_law n0 v L ∧ FrameEnd U o U' L 0 0) := by
  refine own_law (y := x) (k := 0) (n := 0) (plainFor_of_name pn_ModelProcsPinLaw99) (ef_law_3_7 p0 p1) (by decide) (by decide) ?_
  intro p e s m below meth c s₁ hx hby hml hown hnm hret hZ hh e0 X0
  have N0 := Fr.nil n0
  obtain ⟨k, hk⟩ : ∃ z, z = ((p0 &&& (2147483647 : Int32)) - ((p0 &&& (2147483647 : Int32)) / (100000000 : Int32)) * (100000000 : Int32)) := ⟨_, rfl⟩
  have hk0 : 0 ≤ k.toInt := by rw [hk]; exact (own_rem8 p0).1
  have hk1 : k.toInt < 100000000 := by rw [hk]; exact (own_rem8 p0).2
  have hlo' : ¬ (k < (98400000 : Int32)) := by rw [hk]; exact hlo
  obtain ⟨_, T1, L1, X1, hQ1, st1⟩ := own_static X0 hx hZ hown (w3 hw) (w4 hw) (w5 hw) (w6 hw) (by decide) (r_procs7 l Z a0 hw [] st_SIZES st_SHARES (FP.ddiv (FP.l2d ((((2 : Int32) * k) + (1 : Int32)).toInt64)) (4730986895511650304 : UInt64)) k_st_SIZES k_st_SHARES h0 n0 Z0 S_SIZES O0 V_st_SIZES S_SHARES V_st_SHARES (own_ge0 hk0 hk1 (own_nlt hlo' (by decide))) (own_ge1 hk0 hk1 (own_nlt hlo' (by decide))) (own_ge2 hk0 hk1 (own_nlt hlo' (by decide))) (own_ge3 hk0 hk1 (own_nlt hlo' (by decide))) (own_ge4 hk0 hk1 (own_nlt hlo' (by decide))) (own_ge5 hk0 hk1 (own_nlt hlo' (by decide))) (own_ge6 hk0 hk1 (own_nlt hlo' (by decide)))) e0 (W := 0) (by decide) (g := (mkF m 67 #[vi p0, vi p1, vi 3, vi k, .val (.double (FP.ddiv (FP.l2d ((((2 : Int32) * k) + (1 : Int32)).toInt64)) (4730986895511650304 : UInt64))), .second] [(.double (FP.ddiv (FP.l2d ((((2 : Int32) * k) + (1 : Int32)).toInt64)) (4730986895511650304 : UInt64)))])) rfl (by rw [hml]; rfl) (argsL := [(.double (FP.ddiv (FP.l2d ((((2 : Int32) * k) + (1 : Int32)).toInt64)) (4730986895511650304 : UInt64)))]) (rest := []) (lenOf pd_0 rfl) rfl rfl (own_wr rfl rfl) (hb hby at_67)
  obtain ⟨rfl, N1q, e1⟩ := hQ1
  have N1 := Fr.app N0 N1q
  obtain ⟨_, T2, L2, X2, hQ2, st2⟩ := own_static X1 hx hZ hown (w11 hw) (w12 hw) (w13 hw) (w14 hw) (by decide) (r_exp7 l Z a0 hw [] k h0 n0 Z0 (own_nlt hlo' (by decide)) (own_nlt hlo' (by decide)) (own_nlt hlo' (by decide)) (own_nlt hlo' (by decide)) (own_nlt hlo' (by decide)) (own_nlt hlo' (by decide)) (own_nlt hlo' (by decide))) e1 (W := 1) (by decide) (g := (mkF m 71 #[vi p0, vi p1, vi 3, vi k, .val (.double (FP.ddiv (FP.l2d ((((2 : Int32) * k) + (1 : Int32)).toInt64)) (4730986895511650304 : UInt64))), .second] [(.int k), (.int 128)])) rfl (by rw [hml]; rfl) (argsL := [(.int k)]) (rest := [(.int 128)]) (lenOf pd_1 rfl) rfl rfl (own_wr rfl rfl) (hb hby at_71)
  obtain ⟨rfl, N2q, e2⟩ := hQ2
  have N2 := Fr.app N1 N2q
  refine ⟨T2, _, some (.int 1), X2, (fun h => by cases h <;> rfl), ?_, fun fs hr => ?_⟩
  · show Q_law n0 _ _
    exact ⟨rfl, N2⟩
  · refine t_iloadN 1 X0.here hx (hb hby at_0) rfl rfl ?_
    refine t_iconst 2 (r := 3) X0.here hx (hb hby at_1) (by decide) rfl ?_
    refine t_iand 3 (r := 3) X0.here hx (hb hby at_2) hm rfl ?_
    refine t_istoreN (pc' := 4) (L' := #[vi p0, vi p1, vi 3, .unset, .unset, .unset]) X0.here hx (hb hby at_3) rfl rfl ?_
    refine t_iloadN 5 X0.here hx (hb hby at_4) rfl rfl ?_
    refine t_ifYes (pc := 5) 22 X0.here hx (hb hby at_5) (by decide) (by decide) (by decide) ?_
    refine t_iloadN 23 X0.here hx (hb hby at_22) rfl rfl ?_
    refine t_iconst 24 (r := 1) X0.here hx (hb hby at_23) (by decide) rfl ?_
    refine t_icmpYes (pc := 24) 45 X0.here hx (hb hby at_24) (by decide) (by decide) (by decide) ?_
    refine t_iloadN 46 X0.here hx (hb hby at_45) rfl rfl ?_
    refine X0.ldcInt hx hown (mvT hZ (w0 hw)) (g := (mkF m 46 #[vi p0, vi p1, vi 3, .unset, .unset, .unset] [(.int p0)])) rfl (hb hby at_46) _ ?_
    refine t_iand 49 X0.here hx (hb hby at_48) rfl rfl ?_
    refine X0.ldcInt hx hown (mvT hZ (w1 hw)) (g := (mkF m 49 #[vi p0, vi p1, vi 3, .unset, .unset, .unset] [(.int (p0 &&& (2147483647 : Int32)))])) rfl (hb hby at_49) _ ?_
    refine t_irem 52 (r := k) X0.here hx (hb hby at_51) (by decide) hk.symm rfl ?_
    refine t_istoreN (pc' := 53) (L' := #[vi p0, vi p1, vi 3, vi k, .unset, .unset]) X0.here hx (hb hby at_52) rfl rfl ?_
    refine t_iconst 54 (r := 2) X0.here hx (hb hby at_53) (by decide) rfl ?_
    refine t_iloadN 55 X0.here hx (hb hby at_54) rfl rfl ?_
    refine t_imul 56 X0.here hx (hb hby at_55) rfl rfl ?_
    refine t_iconst 57 (r := 1) X0.here hx (hb hby at_56) (by decide) rfl ?_
    refine t_iadd 58 X0.here hx (hb hby at_57) rfl rfl ?_
    refine t_i2d 59 (r := (FP.l2d ((((2 : Int32) * k) + (1 : Int32)).toInt64))) X0.here hx (hb hby at_58) (i2d_w _) rfl ?_
    refine X0.ldc2DoubleC hx hown (mvT hZ (w2 hw)) (g := (mkF m 59 #[vi p0, vi p1, vi 3, vi k, .unset, .unset] [(.double (FP.l2d ((((2 : Int32) * k) + (1 : Int32)).toInt64)))])) rfl (hb hby at_59) _ ?_
    refine t_ddiv 63 (r := (FP.ddiv (FP.l2d ((((2 : Int32) * k) + (1 : Int32)).toInt64)) (4730986895511650304 : UInt64))) X0.here hx (hb hby at_62) (Jvm.Free.Fl.ddiv_out (Jvm.Free.Fl.l2d_fin _).noNaN (by unfold Jvm.Free.Fl.Fin64; decide) (by unfold Jvm.Free.Fl.Nz64; decide)) rfl rfl ?_
    refine t_dstore (pc' := 65) (L' := #[vi p0, vi p1, vi 3, vi k, .val (.double (FP.ddiv (FP.l2d ((((2 : Int32) * k) + (1 : Int32)).toInt64)) (4730986895511650304 : UInt64))), .second]) X0.here hx (hb hby at_63) rfl rfl ?_
    refine t_dload 67 X0.here hx (hb hby at_65) rfl rfl ?_
    refine st1 _ ?_
    refine t_iloadN 71 X1.here hx (hb hby at_70) rfl rfl ?_
    refine st2 _ ?_
    refine t_icmpNo 77 X2.here hx (hb hby at_74) (by decide) rfl ?_
    refine t_iconst 78 (r := 1) X2.here hx (hb hby at_77) (by decide) rfl ?_
    refine t_goto (pc := 78) 82 X2.here hx (hb hby at_78) (by decide) (by decide) ?_
    exact retN X2 hx (t := .boolean) hret (by simp) (hb hby at_82) hr
def w8 (hw : HW Z a0) := ow 8 hw rfl
def w10 (hw : HW Z a0) := ow 10 hw rfl
set_option maxRecDepth 65536 in
set_option maxHeartbeats 40000000 in
theorem rm_law (l : Launch) (Z : State) (a0 : Array Value) (hw : HW Z a0) (ws : List Jvm.Cond) (p0 p1 : Int32) (h0 : Heap) (n0 : Nat) (Z0 : n0 ≤ h0.size) (st_SIZES st_SHARES : Addr) (k_st_SIZES k_st_SHARES : ClassId) (S_SIZES : Sta Z Z.heap "com/example/bourse/bourse/workload/Model" "SIZES" "[I" (.ref st_SIZES)) (V_st_SIZES : Arv Z h0 st_SIZES k_st_SIZES .int 8 [(.int 1), (.int 2), (.int 4), (.int 8), (.int 16), (.int 32), (.int 64), (.int 128)] z0) (S_SHARES : Sta Z Z.heap "com/example/bourse/bourse/workload/Model" "SHARES" "[D" (.ref st_SHARES)) (V_st_SHARES : Arv Z h0 st_SHARES k_st_SHARES .double 8 [(.double (4598557124793677434 : UInt64)), (.double (4591942237660995650 : UInt64)), (.double (4594406607377092785 : UInt64)), (.double (4593080747646794911 : UInt64)), (.double (4592172821961917019 : UInt64)), (.double (4595552323122295839 : UInt64)), (.double (4589578748576551613 : UInt64)), (.double (4580268907426851324 : UInt64))] (.double (FP.l2d (0 : Int64)))) (O0 : Old Z n0 h0) :
    MetFree l x (head1 (Jvm.Cond.code x code maxLocals ret :: ws) room_1) (fun a U => a = #[(.int p0), (.int p1)] ∧ Z.Warmed39 U.vm ∧ U.heap = h0) (fun _ _ _ _ _ => True) (fun _ U o U' => ∃ v L, o = .returned v ∧ Q_law n0 v L ∧ FrameEnd U o U' L 0 0) := by
  rcases own_and3 p1 with hm | hm | hm | hm
  · exact law_0 l Z a0 hw ws p0 p1 st_SIZES st_SHARES k_st_SIZES k_st_SHARES h0 n0 Z0 hm S_SIZES V_st_SIZES S_SHARES V_st_SHARES O0
  · exact law_1 l Z a0 hw ws p0 p1 st_SIZES st_SHARES k_st_SIZES k_st_SHARES h0 n0 Z0 hm S_SIZES V_st_SIZES S_SHARES V_st_SHARES O0
  ·
    by_cases hhi : ((p0 &&& (2147483647 : Int32)) - ((p0 &&& (2147483647 : Int32)) / (100000000 : Int32)) * (100000000 : Int32)) < (27120000 : Int32)
    · exact law_2_0 l Z a0 hw ws p0 p1 st_SIZES st_SHARES k_st_SIZES k_st_SHARES h0 n0 Z0 hm hhi S_SIZES V_st_SIZES S_SHARES V_st_SHARES O0
    · have hlo1 := hhi
      by_cases hhi : ((p0 &&& (2147483647 : Int32)) - ((p0 &&& (2147483647 : Int32)) / (100000000 : Int32)) * (100000000 : Int32)) < (37220000 : Int32)
      · exact law_2_1 l Z a0 hw ws p0 p1 st_SIZES st_SHARES k_st_SIZES k_st_SHARES h0 n0 Z0 hm hlo1 hhi S_SIZES V_st_SIZES S_SHARES V_st_SHARES O0
      · have hlo2 := hhi
        by_cases hhi : ((p0 &&& (2147483647 : Int32)) - ((p0 &&& (2147483647 : Int32)) / (100000000 : Int32)) * (100000000 : Int32)) < (51760000 : Int32)
        · exact law_2_2 l Z a0 hw ws p0 p1 st_SIZES st_SHARES k_st_SIZES k_st_SHARES h0 n0 Z0 hm hlo2 hhi S_SIZES V_st_SIZES S_SHARES V_st_SHARES O0
        · have hlo3 := hhi
          by_cases hhi : ((p0 &&& (2147483647 : Int32)) - ((p0 &&& (2147483647 : Int32)) / (100000000 : Int32)) * (100000000 : Int32)) < (63440000 : Int32)
          · exact law_2_3 l Z a0 hw ws p0 p1 st_SIZES st_SHARES k_st_SIZES k_st_SHARES h0 n0 Z0 hm hlo3 hhi S_SIZES V_st_SIZES S_SHARES V_st_SHARES O0
          · have hlo4 := hhi
            by_cases hhi : ((p0 &&& (2147483647 : Int32)) - ((p0 &&& (2147483647 : Int32)) / (100000000 : Int32)) * (100000000 : Int32)) < (73860000 : Int32)
            · exact law_2_4 l Z a0 hw ws p0 p1 st_SIZES st_SHARES k_st_SIZES k_st_SHARES h0 n0 Z0 hm hlo4 hhi S_SIZES V_st_SIZES S_SHARES V_st_SHARES O0
            · have hlo5 := hhi
              by_cases hhi : ((p0 &&& (2147483647 : Int32)) - ((p0 &&& (2147483647 : Int32)) / (100000000 : Int32)) * (100000000 : Int32)) < (91580000 : Int32)
              · exact law_2_5 l Z a0 hw ws p0 p1 st_SIZES st_SHARES k_st_SIZES k_st_SHARES h0 n0 Z0 hm hlo5 hhi S_SIZES V_st_SIZES S_SHARES V_st_SHARES O0
              · have hlo6 := hhi
                by_cases hhi : ((p0 &&& (2147483647 : Int32)) - ((p0 &&& (2147483647 : Int32)) / (100000000 : Int32)) * (100000000 : Int32)) < (98400000 : Int32)
                · exact law_2_6 l Z a0 hw ws p0 p1 st_SIZES st_SHARES k_st_SIZES k_st_SHARES h0 n0 Z0 hm hlo6 hhi S_SIZES V_st_SIZES S_SHARES V_st_SHARES O0
                · have hlo7 := hhi
                  exact law_2_7 l Z a0 hw ws p0 p1 st_SIZES st_SHARES k_st_SIZES k_st_SHARES h0 n0 Z0 hm hlo7 S_SIZES V_st_SIZES S_SHARES V_st_SHARES O0
  ·
    by_cases hhi : ((p0 &&& (2147483647 : Int32)) - ((p0 &&& (2147483647 : Int32)) / (100000000 : Int32)) * (100000000 : Int32)) < (27120000 : Int32)
    · exact law_3_0 l Z a0 hw ws p0 p1 st_SIZES st_SHARES k_st_SIZES k_st_SHARES h0 n0 Z0 hm hhi S_SIZES V_st_SIZES S_SHARES V_st_SHARES O0
    · have hlo1 := hhi
      by_cases hhi : ((p0 &&& (2147483647 : Int32)) - ((p0 &&& (2147483647 : Int32)) / (100000000 : Int32)) * (100000000 : Int32)) < (37220000 : Int32)
      · exact law_3_1 l Z a0 hw ws p0 p1 st_SIZES st_SHARES k_st_SIZES k_st_SHARES h0 n0 Z0 hm hlo1 hhi S_SIZES V_st_SIZES S_SHARES V_st_SHARES O0
      · have hlo2 := hhi
        by_cases hhi : ((p0 &&& (2147483647 : Int32)) - ((p0 &&& (2147483647 : Int32)) / (100000000 : Int32)) * (100000000 : Int32)) < (51760000 : Int32)
        · exact law_3_2 l Z a0 hw ws p0 p1 st_SIZES st_SHARES k_st_SIZES k_st_SHARES h0 n0 Z0 hm hlo2 hhi S_SIZES V_st_SIZES S_SHARES V_st_SHARES O0
        · have hlo3 := hhi
          by_cases hhi : ((p0 &&& (2147483647 : Int32)) - ((p0 &&& (2147483647 : Int32)) / (100000000 : Int32)) * (100000000 : Int32)) < (63440000 : Int32)
          · exact law_3_3 l Z a0 hw ws p0 p1 st_SIZES st_SHARES k_st_SIZES k_st_SHARES h0 n0 Z0 hm hlo3 hhi S_SIZES V_st_SIZES S_SHARES V_st_SHARES O0
          · have hlo4 := hhi
            by_cases hhi : ((p0 &&& (2147483647 : Int32)) - ((p0 &&& (2147483647 : Int32)) / (100000000 : Int32)) * (100000000 : Int32)) < (73860000 : Int32)
            · exact law_3_4 l Z a0 hw ws p0 p1 st_SIZES st_SHARES k_st_SIZES k_st_SHARES h0 n0 Z0 hm hlo4 hhi S_SIZES V_st_SIZES S_SHARES V_st_SHARES O0
            · have hlo5 := hhi
              by_cases hhi : ((p0 &&& (2147483647 : Int32)) - ((p0 &&& (2147483647 : Int32)) / (100000000 : Int32)) * (100000000 : Int32)) < (91580000 : Int32)
              · exact law_3_5 l Z a0 hw ws p0 p1 st_SIZES st_SHARES k_st_SIZES k_st_SHARES h0 n0 Z0 hm hlo5 hhi S_SIZES V_st_SIZES S_SHARES V_st_SHARES O0
              · have hlo6 := hhi
                by_cases hhi : ((p0 &&& (2147483647 : Int32)) - ((p0 &&& (2147483647 : Int32)) / (100000000 : Int32)) * (100000000 : Int32)) < (98400000 : Int32)
                · exact law_3_6 l Z a0 hw ws p0 p1 st_SIZES st_SHARES k_st_SIZES k_st_SHARES h0 n0 Z0 hm hlo6 hhi S_SIZES V_st_SIZES S_SHARES V_st_SHARES O0
                · have hlo7 := hhi
                  exact law_3_7 l Z a0 hw ws p0 p1 st_SIZES st_SHARES k_st_SIZES k_st_SHARES h0 n0 Z0 hm hlo7 S_SIZES V_st_SIZES S_SHARES V_st_SHARES O0
set_option maxRecDepth 65536 in
set_option maxHeartbeats 40000000 in
theorem comes_1 {Post : Tables → Env → Array Value → State → Outcome → State → Prop} (hpost : ∀ tb e args s v u, (limb_1_1.after args s (.returned v) u = true ∧ limb_1_2.after args s (.returned v) u = true ∧ True) → FrameEnd s (.returned v) u (Jvm.fieldLocs frame_1_writes args s ++ Jvm.arrayLocs frame_1_arrays args s ++ Jvm.staticLocs frame_1_statics s) 0 0 → Post tb e args s (.returned v) u) :
    ArmFor flags0 classFile x code maxLocals ret World_1 tables_1 room_1 Calls_1 rest_1 Pre_1 Post := by
  intro l hfl _ _ p e ha hc hk s m args below hf hA hF happ hP
  obtain ⟨hcalls, hrest, hpre⟩ := hP
  obtain ⟨-, -, -, hnamed, -, -, -, hat⟩ := (Spec.applies_iff hf).mp happ
  obtain ⟨hg, hn⟩ := and_e (Cond.before_iff.mp (show (Jvm.Cond.and given_1 narrow_1).before args s = true from hpre))
  obtain ⟨g1, g2⟩ := and_e hg
  obtain ⟨g3, g4⟩ := and_e g2
  obtain ⟨w0, w1, rfl⟩ : ∃ w0 w1 : Value, args = #[w0, w1] := by
    have hs : args.size = 2 := by simpa [Cond.value, given_1] using g1
    obtain ⟨L⟩ := args
    match L, hs with
    | [w0, w1], _ => exact ⟨w0, w1, rfl⟩
  have hw := fun d (hd : d ∈ tables_1) => atoms_spec (ws := Jvm.Cond.code x code maxLocals ret :: tables_1) hat d (List.mem_cons_of_mem _ hd)
  have hfit : Fit s := fun {y c} hc i hi => by
    obtain ⟨ha, rfl⟩ := Array.getElem?_eq_some_iff.mp hc
    have q := List.all_eq_true.mp ((Array.all_eq_true_iff_forall_mem.mp hF) _ (Array.getElem_mem ha)) i (List.mem_range.mpr hi)
    simpa [Array.getElem?_eq_getElem hi] using q
  obtain ⟨i0, ei0⟩ := is_v g3
  obtain rfl : w0 = (.int i0) := Option.some.inj ei0
  obtain ⟨i1, ei1⟩ := is_v g4
  obtain rfl : w1 = (.int i1) := Option.some.inj ei1
  obtain ⟨c1, r1⟩ := and_e hn
  obtain ⟨c2, r2⟩ := and_e r1
  obtain ⟨c3, r3⟩ := and_e r2
  obtain ⟨c4, r4⟩ := and_e r3
  obtain ⟨c5, r5⟩ := and_e r4
  obtain ⟨c6, r6⟩ := and_e r5
  obtain ⟨c7, r7⟩ := and_e r6
  obtain ⟨c8, r8⟩ := and_e r7
  obtain ⟨c9, r9⟩ := and_e r8
  obtain ⟨c10, r10⟩ := and_e r9
  obtain ⟨c11, r11⟩ := and_e r10
  obtain ⟨c12, r12⟩ := and_e r11
  obtain ⟨c13, r13⟩ := and_e r12
  obtain ⟨c14, r14⟩ := and_e r13
  obtain ⟨c15, r15⟩ := and_e r14
  obtain ⟨c16, r16⟩ := and_e r15
  obtain ⟨c17, r17⟩ := and_e r16
  obtain ⟨c18, r18⟩ := and_e r17
  obtain ⟨c19, r19⟩ := and_e r18
  obtain ⟨st_SIZES, ev_SIZES⟩ := arr_v c1
  have S_SIZES := Sta.start ev_SIZES (Or.inr ⟨(w5 hw), (w8 hw)⟩)
  obtain ⟨cl_SIZES, Ar_SIZES⟩ := Arr.start ev_SIZES c1
  obtain ⟨q1_SIZES, q2_SIZES⟩ := own_alen ev_SIZES Ar_SIZES (eqv_i (Term.int_eval (8)) c2)
  have e_SIZES_0 := (elem_in (eqv_i (Term.int_eval (1)) c5) ev_SIZES (Term.int_eval (0)) Ar_SIZES.1).2
  have e_SIZES_1 := (elem_in (eqv_i (Term.int_eval (2)) c6) ev_SIZES (Term.int_eval (1)) Ar_SIZES.1).2
  have e_SIZES_2 := (elem_in (eqv_i (Term.int_eval (4)) c7) ev_SIZES (Term.int_eval (2)) Ar_SIZES.1).2
  have e_SIZES_3 := (elem_in (eqv_i (Term.int_eval (8)) c8) ev_SIZES (Term.int_eval (3)) Ar_SIZES.1).2
  have e_SIZES_4 := (elem_in (eqv_i (Term.int_eval (16)) c9) ev_SIZES (Term.int_eval (4)) Ar_SIZES.1).2
  have e_SIZES_5 := (elem_in (eqv_i (Term.int_eval (32)) c10) ev_SIZES (Term.int_eval (5)) Ar_SIZES.1).2
  have e_SIZES_6 := (elem_in (eqv_i (Term.int_eval (64)) c11) ev_SIZES (Term.int_eval (6)) Ar_SIZES.1).2
  have e_SIZES_7 := (elem_in (eqv_i (Term.int_eval (128)) c12) ev_SIZES (Term.int_eval (7)) Ar_SIZES.1).2
  have V_st_SIZES : Arv s s.heap st_SIZES cl_SIZES.cls .int 8 [(.int 1), (.int 2), (.int 4), (.int 8), (.int 16), (.int 32), (.int 64), (.int 128)] z0 := Arv.start hfit Ar_SIZES q1_SIZES q2_SIZES (by decide) (by decide) ⟨e_SIZES_0, e_SIZES_1, e_SIZES_2, e_SIZES_3, e_SIZES_4, e_SIZES_5, e_SIZES_6, e_SIZES_7, trivial⟩
  obtain ⟨st_SHARES, ev_SHARES⟩ := arr_v c3
  have S_SHARES := Sta.start ev_SHARES (Or.inr ⟨(w5 hw), (w10 hw)⟩)
  obtain ⟨cl_SHARES, Ar_SHARES⟩ := Arr.start ev_SHARES c3
  obtain ⟨q1_SHARES, q2_SHARES⟩ := own_alen ev_SHARES Ar_SHARES (eqv_i (Term.int_eval (8)) c4)
  have e_SHARES_0 := (elem_in (own_eqd (y := 4598557124793677434) (by simp [Term.eval, Unary.apply] <;> decide) c13) ev_SHARES (Term.int_eval (0)) Ar_SHARES.1).2
  have e_SHARES_1 := (elem_in (own_eqd (y := 4591942237660995650) (by simp [Term.eval, Unary.apply] <;> decide) c14) ev_SHARES (Term.int_eval (1)) Ar_SHARES.1).2
  have e_SHARES_2 := (elem_in (own_eqd (y := 4594406607377092785) (by simp [Term.eval, Unary.apply] <;> decide) c15) ev_SHARES (Term.int_eval (2)) Ar_SHARES.1).2
  have e_SHARES_3 := (elem_in (own_eqd (y := 4593080747646794911) (by simp [Term.eval, Unary.apply] <;> decide) c16) ev_SHARES (Term.int_eval (3)) Ar_SHARES.1).2
  have e_SHARES_4 := (elem_in (own_eqd (y := 4592172821961917019) (by simp [Term.eval, Unary.apply] <;> decide) c17) ev_SHARES (Term.int_eval (4)) Ar_SHARES.1).2
  have e_SHARES_5 := (elem_in (own_eqd (y := 4595552323122295839) (by simp [Term.eval, Unary.apply] <;> decide) c18) ev_SHARES (Term.int_eval (5)) Ar_SHARES.1).2
  have e_SHARES_6 := (elem_in (own_eqd (y := 4589578748576551613) (by simp [Term.eval, Unary.apply] <;> decide) c19) ev_SHARES (Term.int_eval (6)) Ar_SHARES.1).2
  have e_SHARES_7 := (elem_in (own_eqd (y := 4580268907426851324) (by simp [Term.eval, Unary.apply] <;> decide) r19) ev_SHARES (Term.int_eval (7)) Ar_SHARES.1).2
  have V_st_SHARES : Arv s s.heap st_SHARES cl_SHARES.cls .double 8 [(.double (4598557124793677434 : UInt64)), (.double (4591942237660995650 : UInt64)), (.double (4594406607377092785 : UInt64)), (.double (4593080747646794911 : UInt64)), (.double (4592172821961917019 : UInt64)), (.double (4595552323122295839 : UInt64)), (.double (4589578748576551613 : UInt64)), (.double (4580268907426851324 : UInt64))] (.double (FP.l2d (0 : Int64))) := Arv.start hfit Ar_SHARES q1_SHARES q2_SHARES (by decide) (by decide) ⟨e_SHARES_0, e_SHARES_1, e_SHARES_2, e_SHARES_3, e_SHARES_4, e_SHARES_5, e_SHARES_6, e_SHARES_7, trivial⟩
  obtain ⟨n, o, h1, h2, h3, _, L, rfl, ⟨rfl, N⟩, hq⟩ := rm_law l s _ hw tables_1 i0 i1 s.heap s.heap.size (Nat.le_refl _) st_SIZES st_SHARES cl_SIZES.cls cl_SHARES.cls S_SIZES V_st_SIZES S_SHARES V_st_SHARES (Old.start s) p e ha hc hk s m _ below hf ((Spec.applies_iff_loose hf).mp happ).1 ⟨rfl, State.Warmed39.refl s, rfl⟩ trivial
  refine ⟨n, _, h1, h2, h3, hpost _ _ _ _ _ _ ⟨Cond.after_iff.mpr rfl, Cond.after_iff.mpr (eq_i res_at (Term.int_eval (1)) rfl), trivial⟩ ⟨hq.1, hq.2.1, (hq.2.2.sift fun y hy => Or.inr (N y hy)).mono (by decide) (by decide)⟩⟩
theorem main_1_1 : Claimed_1_1 := comes_1 fun _ _ _ _ _ _ h hF => ⟨h.1, hF⟩
theorem main_1_2 : Claimed_1_2 := comes_1 fun _ _ _ _ _ _ h hF => ⟨h.2.1, hF⟩
end Jvm.Pilot.@@N@@
namespace Jvm.Pilot.@@N@@
open Jvm Jvm.ClassFile Sem Op Lib Jvm.Free Jvm.Stand Jvm.Pilot.@@N@@.Jvm.D
/-! MADE BY PROGRAM (witnessworld.py) out of the Statement's table words and the real class files: 11 classes; the members and pool entries that the words name. The judged class is class 1, her method 2. -/
namespace start1
open Jvm.ClassFile
def u (s : String) : CpInfo := .utf8 (stringToUtf16 s)
/-- a pool by its gaps: so many unusable entries, then the entry; so many at the end -/
def gap : Nat → List CpInfo → List CpInfo
  | 0, r => r
  | n + 1, r => .unusable :: gap n r
def poolList (es : List (Nat × CpInfo)) (last : Nat) : List CpInfo := es.foldr (fun e r => gap e.1 (e.2 :: r)) (gap last [])
def pool (es : List (Nat × CpInfo)) (last : Nat) : Array CpInfo := ⟨poolList es last⟩
def fileOf (pool : Array CpInfo) (this : Nat) (attrs : Array Attribute := #[]) (ms : Array MethodInfo := #[]) (fl : Nat := 33) (sup : Nat := 0) (ifs : Array Nat := #[]) (fds : Array FieldInfo := #[]) : ClassFile where
  minorVersion := 0
  majorVersion := 65
  constantPool := pool
  accessFlags := fl
  thisClass := this
  superClass := sup
  interfaces := ifs
  fields := fds
  methods := ms
  attributes := attrs
def plain (name : String) (sup : Option ClassId) : Class where
  name := name
  kind := .ordinary
  loader := none
  accessFlags := 33
  super := sup
  interfaces := #[]
  cf := none
  fields := #[]
  methods := #[]
  instanceTypes := #[]
  staticTypes := #[]
  resolved := #[]
  callSites := []
  init := .initialized
  statics := none
  mirror := none

def pool0 : Array CpInfo := pool [(5, u "<init>"), (0, u "()V"), (1, .class_ 10), (1, u "java/lang/Object")] 113

def k0m0 : Method := { name := "<init>", desc := "()V", sig := { parameters := [], returnType := none }, accessFlags := 1, code := none }
/-- java/lang/Object -/
def k0 : Class := { plain "java/lang/Object" none with
  accessFlags := 33
  interfaces := #[]
  cf := some (fileOf pool0 8 #[] #[{ accessFlags := 1, nameIndex := 5, descriptorIndex := 6, attributes := #[] }] 33 0 #[] #[])
  fields := #[]
  methods := #[k0m0]
  instanceTypes := #[]
  staticTypes := #[]
  resolved := Array.replicate 124 none
  statics := none }

def pool1 : Array CpInfo := pool [(2, .class_ 4), (1, u "java/lang/Object"), (0, u "<init>"), (0, u "()V"), (0, .integer 27120000), (0, .integer 37220000), (0, .integer 51760000), (0, .integer 63440000), (0, .integer 73860000), (0, .integer 91580000), (0, .integer 98400000), (0, .methodref 15 16), (0, .class_ 17), (0, .nameAndType 18 19), (0, u "com/example/bourse/bourse/workload/Model"), (0, u "procs"), (0, u "(D)I"), (0, .double 4607182418800017407), (1, .integer 2147483647), (0, .integer 100000000), (0, .double 4730986895511650304), (1, .methodref 27 28), (0, .class_ 29), (0, .nameAndType 30 31), (0, u "com/example/bourse/bourse/workload/ModelProcsPinLaw"), (0, u "expected"), (0, u "(I)I"), (3, u "law"), (0, u "(II)Z")] 2

def k1m0 : Method := { name := "<init>", desc := "()V", sig := { parameters := [], returnType := none }, accessFlags := 1, code := none }
def k1c1 : Code := { maxStack := 2, maxLocals := 1, code := method_2_code, exceptionTable := #[], attributes := #[] }
def k1m1 : Method := { name := "expected", desc := "(I)I", sig := { parameters := [.int], returnType := some .int }, accessFlags := 10, code := some k1c1 }
def k1c2 : Code := { maxStack := 4, maxLocals := 6, code := code, exceptionTable := #[], attributes := #[] }
def k1m2 : Method := { name := "law", desc := "(II)Z", sig := { parameters := [.int, .int], returnType := some .boolean }, accessFlags := 9, code := some k1c2 }
/-- com/example/bourse/bourse/workload/ModelProcsPinLaw -/
def k1 : Class := { plain "com/example/bourse/bourse/workload/ModelProcsPinLaw" (some 0) with
  accessFlags := 49
  interfaces := #[]
  cf := some (fileOf pool1 27 #[] #[{ accessFlags := 1, nameIndex := 5, descriptorIndex := 6, attributes := #[] }, { accessFlags := 10, nameIndex := 30, descriptorIndex := 31, attributes := #[] }, { accessFlags := 9, nameIndex := 35, descriptorIndex := 36, attributes := #[] }] 49 2 #[] #[])
  fields := #[]
  methods := #[k1m0, k1m1, k1m2]
  instanceTypes := #[]
  staticTypes := #[]
  resolved := Array.replicate 39 none
  statics := none }

def pool2 : Array CpInfo := pool [(2, .class_ 4), (1, u "java/lang/Object"), (2, .class_ 8), (0, u "com/example/bourse/bourse/workload/Model"), (13, u "meanGap"), (0, u "D"), (4, .class_ 29), (0, u "com/example/bourse/bourse/workload/Model$1"), (9, .fieldref 7 40), (0, .nameAndType 41 42), (0, u "SIZES"), (0, u "[I"), (0, .fieldref 7 44), (0, .nameAndType 45 46), (0, u "SHARES"), (0, u "[D"), (2, u "RUNTIMES"), (0, u "[[I"), (8, u "POINTS"), (58, u "DEFAULT_MEAN_GAP"), (3, u "MAX_MEAN_GAP"), (9, u "procs"), (0, u "(D)I")] 35

def k2c0 : Code := { maxStack := 4, maxLocals := 5, code := prog_211_method_5_code, exceptionTable := #[], attributes := #[] }
def k2m0 : Method := { name := "procs", desc := "(D)I", sig := { parameters := [.double], returnType := some .int }, accessFlags := 8, code := some k2c0 }
/-- com/example/bourse/bourse/workload/Model -/
def k2 : Class := { plain "com/example/bourse/bourse/workload/Model" (some 0) with
  accessFlags := 49
  interfaces := #[]
  cf := some (fileOf pool2 7 #[.nestMembers #[28]] #[{ accessFlags := 8, nameIndex := 132, descriptorIndex := 133, attributes := #[] }] 49 2 #[] #[{ accessFlags := 25, nameIndex := 118, descriptorIndex := 23, attributes := #[] }, { accessFlags := 25, nameIndex := 122, descriptorIndex := 23, attributes := #[] }, { accessFlags := 26, nameIndex := 41, descriptorIndex := 42, attributes := #[] }, { accessFlags := 26, nameIndex := 45, descriptorIndex := 46, attributes := #[] }, { accessFlags := 26, nameIndex := 59, descriptorIndex := 46, attributes := #[] }, { accessFlags := 26, nameIndex := 49, descriptorIndex := 50, attributes := #[] }, { accessFlags := 18, nameIndex := 22, descriptorIndex := 23, attributes := #[] }])
  fields := #[{ name := "DEFAULT_MEAN_GAP", type := .double, accessFlags := 25, slot := 0, constantValue := 0 }, { name := "MAX_MEAN_GAP", type := .double, accessFlags := 25, slot := 1, constantValue := 0 }, { name := "SIZES", type := (.array .int), accessFlags := 26, slot := 2, constantValue := 0 }, { name := "SHARES", type := (.array .double), accessFlags := 26, slot := 3, constantValue := 0 }, { name := "POINTS", type := (.array .double), accessFlags := 26, slot := 4, constantValue := 0 }, { name := "RUNTIMES", type := (.array (.array .int)), accessFlags := 26, slot := 5, constantValue := 0 }, { name := "meanGap", type := .double, accessFlags := 18, slot := 0, constantValue := 0 }]
  methods := #[k2m0]
  instanceTypes := #[.double]
  staticTypes := #[.double, .double, (.array .int), (.array .double), (.array .double), (.array (.array .int))]
  resolved := Array.replicate 169 none
  statics := some 0 }

def pool3 : Array CpInfo := pool [(1, u "java/lang/Cloneable"), (0, .class_ 1), (0, u "java/lang/Object"), (0, .class_ 3)] 3

/-- java/lang/Cloneable -/
def k3 : Class := { plain "java/lang/Cloneable" (some 0) with
  accessFlags := 1537
  interfaces := #[]
  cf := some (fileOf pool3 2 #[] #[] 1537 4 #[] #[])
  fields := #[]
  methods := #[]
  instanceTypes := #[]
  staticTypes := #[]
  resolved := Array.replicate 8 none
  statics := none }

def pool4 : Array CpInfo := pool [(1, u "java/io/Serializable"), (0, .class_ 1), (0, u "java/lang/Object"), (0, .class_ 3)] 3

/-- java/io/Serializable -/
def k4 : Class := { plain "java/io/Serializable" (some 0) with
  accessFlags := 1537
  interfaces := #[]
  cf := some (fileOf pool4 2 #[] #[] 1537 4 #[] #[])
  fields := #[]
  methods := #[]
  instanceTypes := #[]
  staticTypes := #[]
  resolved := Array.replicate 8 none
  statics := none }

/-- the primitive byte -/
def k5 : Class := { plain "byte" none with kind := .primitive 'B', accessFlags := 0x411 }
/-- [B -/
def k6 : Class := { plain "[B" (some 0) with kind := .array 5 .byte, interfaces := #[3, 4], accessFlags := 1041 }

/-- the primitive double -/
def k7 : Class := { plain "double" none with kind := .primitive 'D', accessFlags := 0x411 }
/-- [D -/
def k8 : Class := { plain "[D" (some 0) with kind := .array 7 .double, interfaces := #[3, 4], accessFlags := 1041 }

/-- the primitive int -/
def k9 : Class := { plain "int" none with kind := .primitive 'I', accessFlags := 0x411 }
/-- [I -/
def k10 : Class := { plain "[I" (some 0) with kind := .array 9 .int, interfaces := #[3, 4], accessFlags := 1041 }

def heap : Heap := #[{ cls := 2, slots := #[.double 0, .double 0, .ref 1, .ref 2, .null, .null], vm := .statics 2 },
  { cls := 10, slots := #[.int 1, .int 2, .int 4, .int 8, .int 16, .int 32, .int 64, .int 128], vm := .none },
  { cls := 8, slots := #[.double 4598557124793677434, .double 4591942237660995650, .double 4594406607377092785, .double 4593080747646794911, .double 4592172821961917019, .double 4595552323122295839, .double 4589578748576551613, .double 4580268907426851324], vm := .none }]
def classes : Array Class := #[k0, k1, k2, k3, k4, k5, k6, k7, k8, k9, k10]
def interned : List (Array UInt16 × Addr) := []
def slotsUsed : Nat := 22
def theMethod : MethodId := ⟨1, 2⟩
def args0 : Array Value := #[.int 5, .int 3]
def aboutOver (below : List Frame) : State where
  vm := { classes := classes, interned := interned.toArray }
  heap := heap
  slotsUsed := slotsUsed
  threads := #[{ frames := .invoking theMethod args0 :: below }]
def below0 : List Frame := [.native { method := ⟨0, 0⟩, args := #[] }]
def about1 : State := aboutOver below0
def p0 : Program := .bare "" "" ""
def e0 : Env := launch0.env 0 0 0
theorem w_frames : about1.frames = Frame.invoking theMethod args0 :: below0 := rfl
set_option maxRecDepth 65536 in
theorem w_args : argsFit about1.vm theMethod args0 = true := by decide +kernel
set_option maxRecDepth 65536 in
theorem w_heap : heapFits about1 = true := by decide +kernel
set_option maxRecDepth 65536 in
theorem w_runnable : about1.curStatus? = some .runnable := by decide +kernel
set_option maxRecDepth 65536 in
theorem w_alone : about1.alone = true := by decide +kernel
set_option maxRecDepth 65536 in
theorem w_named : about1.methodNamed? x = some theMethod := by decide +kernel
set_option maxRecDepth 65536 in
theorem w_hears : about1.hears theMethod below0 = true := by decide +kernel
set_option maxRecDepth 65536 in
theorem w_ripe : about1.ripe theMethod args0 below0 = true := by decide +kernel
theorem w_running : about1.status = .running := rfl
set_option maxRecDepth 65536 in
theorem w_room : about1.hasRoom e0.platform room_1 = true :=
  launch0.hasRoom_least _ room_1 (by decide +kernel) (by decide +kernel) (by decide +kernel) (by decide +kernel) (by decide +kernel) (by decide +kernel)
theorem allAtoms_all (ts : List Jvm.Cond) (a : Array Jvm.Value) (st : Jvm.State) : (allAtoms ts).before a st = ts.all (fun c => c.before a st) := by
  induction ts with
  | nil => rfl
  | cons c t ih =>
    show (Jvm.Cond.and c (allAtoms t)).before a st = _
    rw [Jvm.Cond.before_and, ih, List.all_cons]
def words1 : List Jvm.Cond := Jvm.Cond.code x code maxLocals ret :: tables_1
/-- a 'code' word, met by the world's own term for the bytes: nothing is compared byte by byte -/
theorem code_word {y : MethodName} {bytes : ByteArray} {mx : Nat} {rt : Option FieldType} {a : Array Value} {s : State} {m : MethodId} {meth : Method} {c : Code} (h1 : s.methodNamed? y = some m) (h2 : s.vm.method? m = some meth) (h3 : meth.code = some c) (h4 : c.code = bytes)
    (h5 : (c.maxLocals == mx && c.exceptionTable.isEmpty && decide (c.maxStack ≤ mostOperands) && decide (meth.sig.returnType = rt) && !meth.locks && decide (parseMethodDescriptor y.desc = some meth.sig)) = true) : (Jvm.Cond.code y bytes mx rt).before a s = true := by
  simp only [Bool.and_eq_true, beq_iff_eq, Bool.not_eq_true', decide_eq_true_eq] at h5
  obtain ⟨⟨⟨⟨⟨g1, g2⟩, g3⟩, g4⟩, g5⟩, g6⟩ := h5
  simp [Cond.before, Cond.holds, Cond.value, h1, h2, h3, h4, g1, g2, g3, g4, g5, g6]
def isCode : Jvm.Cond → Bool
  | .code _ _ _ _ => true
  | _ => false
theorem all_split {L : List Jvm.Cond} {P : Jvm.Cond → Bool} (h1 : L.all (fun c => isCode c || P c) = true) (h2 : ∀ c ∈ L.filter isCode, P c = true) : L.all P = true := by
  refine List.all_eq_true.mpr fun c hc => ?_
  have h := List.all_eq_true.mp h1 c hc
  rcases Bool.eq_false_or_eq_true (isCode c) with hi | hi
  · exact h2 c (List.mem_filter.mpr ⟨hc, hi⟩)
  · simpa [hi] using h
set_option maxRecDepth 65536 in
theorem w_c0 : (Jvm.Cond.code x code maxLocals ret).before args0 about1 = true := code_word (m := ⟨1, 2⟩) (meth := k1m2) (c := k1c2) (by decide +kernel) rfl rfl rfl (by decide +kernel)
set_option maxRecDepth 65536 in
theorem w_c1 : (Jvm.Cond.code ({ cls := "com/example/bourse/bourse/workload/Model", name := "procs", desc := "(D)I" } : Jvm.MethodName) prog_211_method_5_code (5 : Nat) (Option.some Jvm.ClassFile.FieldType.int)).before args0 about1 = true := code_word (m := ⟨2, 0⟩) (meth := k2m0) (c := k2c0) (by decide +kernel) rfl rfl rfl (by decide +kernel)
set_option maxRecDepth 65536 in
theorem w_c2 : (Jvm.Cond.code ({ cls := "com/example/bourse/bourse/workload/ModelProcsPinLaw", name := "expected", desc := "(I)I" } : Jvm.MethodName) method_2_code (1 : Nat) (Option.some Jvm.ClassFile.FieldType.int)).before args0 about1 = true := code_word (m := ⟨1, 1⟩) (meth := k1m1) (c := k1c1) (by decide +kernel) rfl rfl rfl (by decide +kernel)
def codes1 : List Jvm.Cond := [Jvm.Cond.code x code maxLocals ret, Jvm.Cond.code ({ cls := "com/example/bourse/bourse/workload/Model", name := "procs", desc := "(D)I" } : Jvm.MethodName) prog_211_method_5_code (5 : Nat) (Option.some Jvm.ClassFile.FieldType.int), Jvm.Cond.code ({ cls := "com/example/bourse/bourse/workload/ModelProcsPinLaw", name := "expected", desc := "(I)I" } : Jvm.MethodName) method_2_code (1 : Nat) (Option.some Jvm.ClassFile.FieldType.int)]
set_option maxRecDepth 65536 in
theorem codes_eq : words1.filter isCode = codes1 := rfl
theorem w_codes : ∀ c ∈ words1.filter isCode, c.before args0 about1 = true := by
  rw [codes_eq]
  intro c hc
  simp only [codes1, List.mem_cons, List.not_mem_nil, or_false] at hc
  rcases hc with rfl | rfl | rfl
  · exact w_c0
  · exact w_c1
  · exact w_c2
set_option maxRecDepth 65536 in
theorem w_t1 : words1.all (fun c => isCode c || c.before args0 about1) = true := by decide +kernel
theorem w_tables : (allAtoms (Jvm.Cond.code x code maxLocals ret :: tables_1)).before args0 about1 = true := by
  rw [allAtoms_all]
  show words1.all (fun c => c.before args0 about1) = true
  refine all_split ?_ w_codes
  rw [w_t1]
set_option maxRecDepth 65536 in
theorem w_case : (Jvm.Cond.and given_1 narrow_1).before args0 about1 = true := by decide +kernel
theorem w_applies : (headSpec (Jvm.Cond.code x code maxLocals ret :: tables_1) room_1).applies x e0.platform about1 = true :=
  (Spec.applies_iff w_frames).mpr ⟨w_running, w_runnable, w_alone, w_named, w_hears, w_ripe, w_room, w_tables⟩
theorem atStart : AtStart classFile x code maxLocals ret World_1 tables_1 room_1 Calls_1 rest_1 Pre_1 launch0 p0 e0 about1 theMethod args0 below0 :=
  ⟨lists_1, trivial, launch0.admits_env _ _ _, launch0.least_env, fairChoices_fair.cas, fairChoices_fair.clock, w_frames, w_args, w_heap, w_applies, trivial, trivial, w_case⟩
end start1
theorem witness_1 : WitnessClaimed_1 := ⟨start1.p0, start1.e0, start1.about1, start1.theMethod, start1.args0, start1.below0, start1.atStart⟩
end Jvm.Pilot.@@N@@
