import JvmDerived
import JvmDerived.Pilot.@@N@@Statement
import JvmDerived.Pilot.@@N@@Code
set_option linter.unusedVariables false
set_option linter.unusedSimpArgs false
namespace Jvm.RoadKit
open Sem ClassFile Op Lib Jvm.Stand Jvm.Free Jvm.LawKit
section New
variable {p : Program} {l : Launch} {e : Env} {R : Room} {s : State} {m : MethodId} {args : Array Value} {below : List Frame} {meth : Method} {c : Code} {T : State} {locs : List Loc} {cells slots : Nat}
theorem retI (X : Stand p l e R s m args below meth c T locs cells slots) (hx : p.tables.exec = Jvm.exec) {pc : Nat} {Ls : Array Slot} {z : Int32} {rest : List Value} (hret : meth.sig.returnType = some .int) (hd : decode c.code pc = .ok (.ireturn, 1)) {fs : List Frame}
    (hl : ∀ (f : JFrame) (acts : List Action), f.method = m → f.locked = none → f.entered = [] → (doReturn e (T.setTop f) acts (some (.int z))).1 = T.setFrames fs) : Steps p.tables e below (T.setTop (mkF m pc Ls (.int z :: rest))) (T.setFrames fs) := by
  have hm' : T.vm.method? m = some meth := X.method'
  have hn : narrow .int (.int z) = .int z := rfl
  show Steps p.tables e below (T.setTop { method := m, pc := pc, locals := Ls, stack := _ :: rest, locked := none }) _
  jvm_step X.here [X.here.top, hx, hd, hm', hret, hn]
  first | (intro acts; rw [hl _ acts rfl rfl rfl]) | rw [hl _ _ rfl rfl rfl]
  exact Steps.refl _
end New
end Jvm.RoadKit
namespace Jvm.Pilot.@@N@@
open Jvm Jvm.ClassFile Sem Op Lib Jvm.Free Jvm.Stand Jvm.LawKit Jvm.RoadKit Bundle Jvm.Pilot.@@N@@.Jvm.D
section Own
variable {p : Program} {l : Launch} {e : Env} {R : Room} {s : State} {m : MethodId} {args : Array Value} {below : List Frame} {meth : Method} {c : Code} {T : State} {locs : List Loc} {cells slots : Nat} {Z : State} {a0 : Array Value} {h h' h0 : Heap} {a b : Addr} {C nm dd : String} {v w : Value} {sl n0 : Nat} {ws ws' : List (Addr × Nat)} {ty : FieldType} {k : ClassId} {z j : Int32} {vs : List Value} {dv : Value}
/-- the cells of h stand in h' as they stood, but for the places in ws -/
def KL (h h' : Heap) (ws : List (Addr × Nat)) : Prop := h.size ≤ h'.size ∧ ∀ (x : Addr) (c : Cell), h[x]? = some c → ∃ c' : Cell, h'[x]? = some c' ∧ c'.cls = c.cls ∧ c'.vm = c.vm ∧ c'.slots.size = c.slots.size ∧ (∀ i, (x, i) ∉ ws → c'.slots[i]? = c.slots[i]?) ∧ ((∀ w ∈ ws, w.1 ≠ x) → c' = c)
theorem KL.refl (h : Heap) (ws : List (Addr × Nat)) : KL h h ws := ⟨Nat.le_refl _, fun x c q => ⟨c, q, rfl, rfl, rfl, fun _ _ => rfl, fun _ => rfl⟩⟩
theorem KL.trans (K : KL h0 h ws) (K' : KL h h' ws') (q : ∀ w ∈ ws', w ∈ ws ∨ h0.size ≤ w.1) : KL h0 h' ws := by
  refine ⟨Nat.le_trans K.1 K'.1, fun x c hx => ?_⟩
  obtain ⟨c1, a1, a2, a3, a4, a5, a6⟩ := K.2 x c hx
  obtain ⟨c2, b1, b2, b3, b4, b5, b6⟩ := K'.2 x c1 a1
  have hlt : x < h0.size := (Array.getElem?_eq_some_iff.mp hx).1
  refine ⟨c2, b1, b2.trans a2, b3.trans a3, b4.trans a4, fun i hi => ?_, fun hn => ?_⟩
  · rw [b5 i fun hm => ?_]
    · exact a5 i hi
    · rcases q _ hm with u | u
      · exact hi u
      · exact absurd hlt (Nat.not_lt.mpr u)
  · rw [b6 fun w hw e => ?_]
    · exact a6 hn
    · rcases q w hw with u | u
      · exact hn w u e
      · subst e; exact absurd hlt (Nat.not_lt.mpr u)
theorem KL.ofE (E : Ext h h') : KL h h' [] := ⟨E.1, fun x c q => ⟨c, E.2 x c q, rfl, rfl, rfl, fun _ _ => rfl, fun _ => rfl⟩⟩
theorem KL.ofW (W : Wr h h' a sl v) : KL h h' [(a, sl)] := by
  refine ⟨Nat.le_of_eq W.size.symm, fun x c q => ?_⟩
  obtain ⟨c', e1, e2, e3, e4, e5, e6, -⟩ := wr_at W q
  refine ⟨c', e1, e2, e3, e4, fun i hi => ?_, fun hn => e5 fun e => hn _ (List.mem_singleton.mpr rfl) e.symm⟩
  by_cases ex : x = a
  · subst ex; exact e6 i fun ei => hi (by rw [ei]; exact List.mem_singleton.mpr rfl)
  · rw [e5 ex]
theorem KL.ofEq (q : h' = h) : KL h h' [] := q ▸ KL.refl h []
theorem nw0 {x : Addr × Nat} : x ∉ ([] : List (Addr × Nat)) := fun q => nomatch q
theorem nwS {i i' : Nat} {L : List (Addr × Nat)} (q : a ≠ b ∨ i ≠ i') (r : (a, i) ∉ L) : (a, i) ∉ (b, i') :: L := fun y => by
  rcases List.mem_cons.mp y with u | u
  · obtain ⟨u1, u2⟩ := Prod.mk.inj u; exact q.elim (fun f => f u1) (fun f => f u2)
  · exact r u
theorem na0 {P : Addr × Nat → Prop} : ∀ w ∈ ([] : List (Addr × Nat)), P w := fun _ q => nomatch q
theorem naS {P : Addr × Nat → Prop} {x : Addr × Nat} {L : List (Addr × Nat)} (q : P x) (r : ∀ w ∈ L, P w) : ∀ w ∈ x :: L, P w := fun w y => by
  rcases List.mem_cons.mp y with u | u
  · exact u ▸ q
  · exact r w u
theorem kFld (K : KL h h' ws) (F : Fld Z h a C nm dd v) (q : (a, Jvm.RoadKit.slotOf Z C nm dd) ∉ ws) : Fld Z h' a C nm dd v := by
  obtain ⟨cell, cf, k, i, f, h1, h2, h3, h4, h5, h6, h7⟩ := F
  obtain ⟨c', e1, e2, e3, -, e5, -⟩ := K.2 a cell h1
  refine ⟨c', cf, k, i, f, e1, h2, h3, by rw [e3]; exact h4, by rw [e3]; exact h5, by rw [e2]; exact h6, ?_⟩
  rw [e5 f.slot (by simpa [Jvm.RoadKit.slotOf, h2] using q)]; exact h7
theorem kExa (K : KL h h' ws) (F : Exa Z h a C) : Exa Z h' a C := by
  obtain ⟨cell, k, h1, h2, h3, h4, h5⟩ := F
  obtain ⟨c', e1, e2, e3, e4, -⟩ := K.2 a cell h1
  exact ⟨c', k, e1, by rw [e2]; exact h2, by rw [e2]; exact h3, by rw [e3]; exact h4, by rw [e4]; exact h5⟩
theorem kArv (K : KL h h' ws) (F : Arv Z h a k ty z vs dv) (q : ∀ w ∈ ws, w.1 ≠ a) : Arv Z h' a k ty z vs dv := by
  obtain ⟨c, A, r⟩ := F
  obtain ⟨c', e1, -, -, -, -, e6⟩ := K.2 a c A.1
  exact ⟨c, ⟨(e6 q) ▸ e1, A.2⟩, r⟩
theorem kOld (K : KL h h' ws) (O : Old Z n0 h) (q : ∀ w ∈ ws, n0 ≤ w.1) : Old Z n0 h' := by
  refine ⟨O.1, Nat.le_trans O.2.1 K.1, fun x c hx => ?_⟩
  obtain ⟨c', e1, -, -, -, -, e6⟩ := K.2 x c (O.2.2 x c hx)
  have hlt : x < n0 := O.1 ▸ (Array.getElem?_eq_some_iff.mp hx).1
  rw [← e6 fun w hw e => absurd hlt (Nat.not_lt.mpr (e ▸ q w hw))]; exact e1
theorem lt_ne (q : a < h.size) (r : h.size ≤ b) : a ≠ b := Nat.ne_of_lt (Nat.lt_of_lt_of_le q r)
theorem own_wr {g : JFrame} {rest : List Value} {W : Nat} (q : g.monitorRoom = 0) (r : (rest.map fun v => v.category).sum = W) : 2 * g.monitorRoom + (rest.map fun v => v.category).sum ≤ W := by rw [q, r]; omega
theorem naO {x : Addr × Nat} {L : List (Addr × Nat)} (q : x ∈ ws ∨ sl ≤ x.1) (r : ∀ w ∈ L, w ∈ ws ∨ sl ≤ w.1) : ∀ w ∈ x :: L, w ∈ ws ∨ sl ≤ w.1 := naS (P := fun w => w ∈ ws ∨ sl ≤ w.1) q r
theorem naN {x : Addr × Nat} {L : List (Addr × Nat)} (q : x.1 ≠ a) (r : ∀ w ∈ L, w.1 ≠ a) : ∀ w ∈ x :: L, w.1 ≠ a := naS (P := fun w => w.1 ≠ a) q r
theorem own_mi {x : Addr × Nat} (i : Nat) (q : ws[i]? = some x) : x ∈ ws ∨ sl ≤ x.1 := Or.inl (List.mem_of_getElem? q)
theorem naB {P : Addr → Prop} {L : List (Addr × Nat)} (n : Nat) (e : (List.range n).map (fun i => (b, i)) = L) (q : P b) : ∀ w ∈ L, P w.1 := fun w hw => by
  rw [← e] at hw
  obtain ⟨i, -, rfl⟩ := List.mem_map.mp hw
  exact q
theorem naNB {L : List (Addr × Nat)} (n : Nat) (e : (List.range n).map (fun i => (b, i)) = L) (q : b ≠ a) : ∀ w ∈ L, w.1 ≠ a := naB (P := fun x => x ≠ a) n e q
theorem naOB {L : List (Addr × Nat)} (n : Nat) (e : (List.range n).map (fun i => (b, i)) = L) (q : sl ≤ b) : ∀ w ∈ L, w ∈ ws ∨ sl ≤ w.1 := fun w hw => Or.inr (naB (P := fun x => sl ≤ x) n e q w hw)
theorem nwB {i : Nat} {L : List (Addr × Nat)} (n : Nat) (e : (List.range n).map (fun i => (b, i)) = L) (q : a ≠ b) : (a, i) ∉ L := fun y => naB (P := fun x => x ≠ a) n e q.symm _ y rfl
theorem naM {Q : Addr × Nat → Prop} {L : List (Addr × Nat)} (n : Nat) (e : (L.take n).map Prod.fst = List.replicate n b) (q : ∀ i, Q (b, i)) (r : ∀ w ∈ L.drop n, Q w) : ∀ w ∈ L, Q w := fun w hw => by
  rw [← List.take_append_drop n L] at hw
  rcases List.mem_append.mp hw with u | u
  · have h1 := List.mem_map_of_mem (f := Prod.fst) u
    rw [e] at h1
    have h2 := List.eq_of_mem_replicate h1
    obtain ⟨x, i⟩ := w
    have h3 : x = b := h2
    rw [h3]; exact q i
  · exact r w u
theorem naNM {L : List (Addr × Nat)} (n : Nat) (e : (L.take n).map Prod.fst = List.replicate n b) (q : b ≠ a) (r : ∀ w ∈ L.drop n, w.1 ≠ a) : ∀ w ∈ L, w.1 ≠ a := naM (Q := fun w => w.1 ≠ a) n e (fun _ => q) r
theorem naOM {L : List (Addr × Nat)} (n : Nat) (e : (L.take n).map Prod.fst = List.replicate n b) (q : sl ≤ b) (r : ∀ w ∈ L.drop n, w ∈ ws ∨ sl ≤ w.1) : ∀ w ∈ L, w ∈ ws ∨ sl ≤ w.1 := naM (Q := fun w => w ∈ ws ∨ sl ≤ w.1) n e (fun _ => Or.inr q) r
theorem naGM {L : List (Addr × Nat)} (n : Nat) (e : (L.take n).map Prod.fst = List.replicate n b) (q : sl ≤ b) (r : ∀ w ∈ L.drop n, sl ≤ w.1) : ∀ w ∈ L, sl ≤ w.1 := naM (Q := fun w => sl ≤ w.1) n e (fun _ => q) r
theorem nwM {i : Nat} {L : List (Addr × Nat)} (n : Nat) (e : (L.take n).map Prod.fst = List.replicate n b) (q : a ≠ b) (r : (a, i) ∉ L.drop n) : (a, i) ∉ L := fun y => naM (Q := fun w => w ≠ (a, i)) n e (fun _ z => q (Prod.mk.inj z).1.symm) (fun w hw z => r (z ▸ hw)) _ y rfl
theorem own_nf {x0 y0 y : MethodName} (w : (Cond.selects C x0 y0).before args s = true) (hyy : y0.cls = y.cls) : NotFace s y := fun r0 h0 => by
  obtain ⟨_, _, m2, -, -, q3, -, kr, hkr, hni⟩ := Cond.selects_spec w
  have hc2 := findClass_of_methodNamed q3
  rw [hyy, findClass_of_methodNamed h0] at hc2
  rw [← Option.some.inj hc2] at hkr
  exact ⟨kr, hkr, hni⟩
theorem own_nsR {O K : String} {n : Nat} (w : (Cond.noSuperclass O).before a0 Z = true) (wk : (Cond.instantiable K n).before a0 Z = true) (hn : O ≠ K) : NS Z O K := by
  obtain ⟨c, k, h1, h2, h3, -, -⟩ := Cond.noSuperclass_spec w
  obtain ⟨t, k', g1, -⟩ := Cond.instantiable_spec wk
  have ne := ids_ne h1 g1 hn
  refine ⟨c, t, h1, g1, fun fuel => ?_⟩
  cases fuel with
  | zero => rfl
  | succ f => simp [Vm.isSubclassAux, ne, h2, h3]
theorem own_nsN {S K : String} {n : Nat} (w : (Cond.superclass C S).before a0 Z = true) (wk : (Cond.instantiable K n).before a0 Z = true) (q : NS Z C K) (hn : C ≠ K) : ∃ c t, Z.vm.findClass C = some c ∧ Z.vm.findClass K = some t ∧ Z.vm.assignable c t = false := by
  obtain ⟨c, t, h0, g0, n3⟩ := q
  obtain ⟨p, k, kp, h1, h2, h3, h4, h5, -, h7⟩ := Cond.superclass_spec h0 w
  obtain ⟨t', k', g1, g2, g5, g7, -⟩ := Cond.instantiable_spec wk
  cases g0.symm.trans g1
  have g8 : k'.isInterface = false := by
    cases hi : k'.isInterface with
    | false => rfl
    | true => simp [hi] at g7
  have ne := ids_ne h0 g0 hn
  refine ⟨c, t, h0, g0, ?_⟩
  show Z.vm.assignableAux (255 + 1) c t = false
  simp [Vm.assignableAux, ne, h2, g2, h5, g5, g8, Vm.isSubclass, n3]
theorem own_static (X : Stand p l e R s m args below meth c T locs cells slots) (hx : p.tables.exec = Jvm.exec) (hZ : Z.Warmed39 s.vm) {own : String} {index : Nat} {y : MethodName} {bytes : ByteArray} {maxL : Nat} {ret : Option FieldType} {rm : Room} {Q : Option Value → Heap → List Loc → Prop} {as' : Array Value}
    (hown : s.vm.findClass own = some m.cls) (w1 : (Cond.methodLink own index y).before a0 Z = true) (w2 : (Cond.static y).before a0 Z = true) (w3 : (Cond.initialized y.cls).before a0 Z = true) (w4 : (Cond.code y bytes maxL ret).before a0 Z = true) (hy : y.cls ≠ "java/lang/invoke/MethodHandle" ∧ y.cls ≠ "java/lang/invoke/VarHandle")
    (hM : MetFree l y (head1 [Cond.code y bytes maxL ret] rm) (fun a U => a = as' ∧ Z.Warmed39 U.vm ∧ U.heap = h) (fun _ _ _ _ _ => True) (fun _ U o U' => ∃ v L, o = .returned v ∧ Q v U'.heap L ∧ FrameEnd U o U' L rm.cells rm.slots))
    (eT : T.heap = h) {W : Nat} (hR : rm.frames + 1 ≤ R.frames ∧ W + (maxL + 11) + rm.locals ≤ R.locals ∧ cells + rm.cells ≤ R.cells ∧ slots + rm.slots ≤ R.slots)
    {g : JFrame} (hg : g.method = m) (hsize : g.locals.size = c.maxLocals) {argsL rest : List Value} (hlen : ∀ sig, parseMethodDescriptor y.desc = some sig → argsL.length = sig.parameters.length) (hstack : g.stack = argsL.reverse ++ rest) (has : argsL.toArray = as') (hW : 2 * g.monitorRoom + (rest.map fun v => v.category).sum ≤ W) (hd : decode c.code g.pc = .ok (.invokestatic index, 3)) :
    ∃ (v : Option Value) (T' : State) (L : List Loc), Stand p l e R s m args below meth c T' (locs ++ L) (cells + rm.cells) (slots + rm.slots) ∧ Q v T'.heap L ∧ ∀ target, Steps p.tables e below (T'.setTop { g with pc := g.pc + 3, stack := v.toList ++ rest }) target → Steps p.tables e below (T.setTop g) target := by
  obtain ⟨v, _, ⟨T', L', k', n'⟩, -, X', ⟨L, hQ, l1, l2, l3⟩, st⟩ := Jvm.LawKit.callS X hx (y := y) hown (mvT hZ w1) (mvT hZ w2) (mvT hZ w3) (mvT hZ w4) hy (backOf (W := W) hM hZ w4 w3 hR.1 hR.2.1) (g := g) hg hsize (argsL := argsL) (rest := rest) hlen hstack hW hd (fun _ _ => ⟨has, eT, hR.2.2.1, hR.2.2.2⟩)
  dsimp only [Pt.U, Pt.locs, Pt.cells, Pt.slots] at X' l1 l2 l3 st hQ
  subst l1 l2 l3
  exact ⟨v, T', L, X', hQ, st⟩
theorem own_init (X : Stand p l e R s m args below meth c T locs cells slots) (hx : p.tables.exec = Jvm.exec) (hZ : Z.Warmed39 s.vm) {own : String} {index : Nat} {y : MethodName} {bytes : ByteArray} {maxL : Nat} {rm : Room} {Q : Option Value → Heap → List Loc → Prop} {as' : Array Value} (hy1 : y.name = "<init>")
    (hown : s.vm.findClass own = some m.cls) (w1 : (Cond.methodLink own index y).before a0 Z = true) (w2 : (Cond.instanceMethod y).before a0 Z = true) (w3 : (Cond.initialized y.cls).before a0 Z = true) (w4 : (Cond.code y bytes maxL none).before a0 Z = true) (hy : y.cls ≠ "java/lang/invoke/MethodHandle" ∧ y.cls ≠ "java/lang/invoke/VarHandle")
    (hM : MetFree l y (head1 [Cond.code y bytes maxL none] rm) (fun a U => a = as' ∧ Z.Warmed39 U.vm ∧ U.heap = h) (fun _ _ _ _ _ => True) (fun _ U o U' => ∃ v L, o = .returned v ∧ Q v U'.heap L ∧ FrameEnd U o U' L rm.cells rm.slots))
    (eT : T.heap = h) {W : Nat} (hR : rm.frames + 1 ≤ R.frames ∧ W + (maxL + 11) + rm.locals ≤ R.locals ∧ cells + rm.cells ≤ R.cells ∧ slots + rm.slots ≤ R.slots)
    {g : JFrame} (hg : g.method = m) (hsize : g.locals.size = c.maxLocals) {argsL rest : List Value} (hlen : ∀ sig, parseMethodDescriptor y.desc = some sig → argsL.length = sig.parameters.length) (hstack : g.stack = argsL.reverse ++ .ref a :: rest) (has : (.ref a :: argsL).toArray = as') (hW : 2 * g.monitorRoom + (rest.map fun v => v.category).sum ≤ W) (hd : decode c.code g.pc = .ok (.invokespecial index, 3)) :
    ∃ (v : Option Value) (T' : State) (L : List Loc), Stand p l e R s m args below meth c T' (locs ++ L) (cells + rm.cells) (slots + rm.slots) ∧ Q v T'.heap L ∧ ∀ target, Steps p.tables e below (T'.setTop { g with pc := g.pc + 3, stack := v.toList ++ rest }) target → Steps p.tables e below (T.setTop g) target := by
  obtain ⟨v, _, ⟨T', L', k', n'⟩, -, X', ⟨L, hQ, l1, l2, l3⟩, st⟩ := X.specialBack hx (y := y) hy1 hown (mvT hZ w1) (mvT hZ w2) (mvT hZ w4) hy (backOf (W := W) hM hZ w4 w3 hR.1 hR.2.1) (g := g) hg hsize (Steps.refl _) (a := a) (argsL := argsL) (rest := rest) hlen hstack hW hd (fun _ _ => ⟨has, eT, hR.2.2.1, hR.2.2.2⟩)
  dsimp only [Pt.U, Pt.locs, Pt.cells, Pt.slots] at X' l1 l2 l3 st hQ
  subst l1 l2 l3
  exact ⟨v, T', L, X', hQ, fun _ t => st.trans t⟩
theorem own_virtual (X : Stand p l e R s m args below meth c T locs cells slots) (hx : p.tables.exec = Jvm.exec) (hZ : Z.Warmed39 s.vm) {own : String} {index : Nat} {y z : MethodName} {bytes : ByteArray} {maxL : Nat} {ret : Option FieldType} {rm : Room} {Q : Option Value → Heap → List Loc → Prop} {as' : Array Value}
    (hown : s.vm.findClass own = some m.cls) (w1 : (Cond.methodLink own index y).before a0 Z = true) (w2 : (Cond.declares y).before a0 Z = true) (hnf : NotFace s y) (w5 : (Cond.selects C y z).before a0 Z = true) (w6 : (Cond.instanceMethod z).before a0 Z = true) (w3 : (Cond.initialized z.cls).before a0 Z = true) (w4 : (Cond.code z bytes maxL ret).before a0 Z = true) (hy : y.cls ≠ "java/lang/invoke/MethodHandle" ∧ y.cls ≠ "java/lang/invoke/VarHandle")
    (hM : MetFree l z (head1 [Cond.code z bytes maxL ret] rm) (fun a U => a = as' ∧ Z.Warmed39 U.vm ∧ U.heap = h) (fun _ _ _ _ _ => True) (fun _ U o U' => ∃ v L, o = .returned v ∧ Q v U'.heap L ∧ FrameEnd U o U' L rm.cells rm.slots))
    (eT : T.heap = h) (E : Exa Z h a C) {W : Nat} (hR : rm.frames + 1 ≤ R.frames ∧ W + (maxL + 11) + rm.locals ≤ R.locals ∧ cells + rm.cells ≤ R.cells ∧ slots + rm.slots ≤ R.slots)
    {g : JFrame} (hg : g.method = m) (hsize : g.locals.size = c.maxLocals) {argsL rest : List Value} (hlen : ∀ sig, parseMethodDescriptor y.desc = some sig → argsL.length = sig.parameters.length) (hstack : g.stack = argsL.reverse ++ .ref a :: rest) (has : (.ref a :: argsL).toArray = as') (hW : 2 * g.monitorRoom + (rest.map fun v => v.category).sum ≤ W) (hd : decode c.code g.pc = .ok (.invokevirtual index, 3)) :
    ∃ (v : Option Value) (T' : State) (L : List Loc), Stand p l e R s m args below meth c T' (locs ++ L) (cells + rm.cells) (slots + rm.slots) ∧ Q v T'.heap L ∧ ∀ target, Steps p.tables e below (T'.setTop { g with pc := g.pc + 3, stack := v.toList ++ rest }) target → Steps p.tables e below (T.setTop g) target := by
  obtain ⟨cq, kq, qa, qb, qc⟩ := isOf hZ eT E
  obtain ⟨v, _, ⟨T', L', k', n'⟩, -, X', ⟨L, hQ, l1, l2, l3⟩, st⟩ := X.virtualBack hx (y := y) (z := z) hown (mvT hZ w1) (mvT hZ w2) hnf (mvT hZ w5) (mvT hZ w6) hy (backOf (W := W) hM hZ w4 w3 hR.1 hR.2.1) qa qc (g := g) hg hsize (Steps.refl _) (argsL := argsL) (rest := rest) hlen hstack hW hd (fun _ _ => ⟨has, eT, hR.2.2.1, hR.2.2.2⟩)
  dsimp only [Pt.U, Pt.locs, Pt.cells, Pt.slots] at X' l1 l2 l3 st hQ
  subst l1 l2 l3
  exact ⟨v, T', L, X', hQ, fun _ t => st.trans t⟩
theorem own_private (X : Stand p l e R s m args below meth c T locs cells slots) (hx : p.tables.exec = Jvm.exec) (hZ : Z.Warmed39 s.vm) {own : String} {index : Nat} {y x0 y0 : MethodName} {bytes : ByteArray} {maxL : Nat} {ret : Option FieldType} {rm : Room} {Q : Option Value → Heap → List Loc → Prop} {as' : Array Value}
    (hown : s.vm.findClass own = some m.cls) (w1 : (Cond.methodLink own index y).before a0 Z = true) (w6 : (Cond.instanceMethod y).before a0 Z = true) (w5 : (Cond.selects C x0 y0).before a0 Z = true) (hyy : y0.cls = y.cls) (w7 : (Cond.privateMethod y).before a0 Z = true) (w3 : (Cond.initialized y.cls).before a0 Z = true) (w4 : (Cond.code y bytes maxL ret).before a0 Z = true) (hy : y.cls ≠ "java/lang/invoke/MethodHandle" ∧ y.cls ≠ "java/lang/invoke/VarHandle")
    (hM : MetFree l y (head1 [Cond.code y bytes maxL ret] rm) (fun a U => a = as' ∧ Z.Warmed39 U.vm ∧ U.heap = h) (fun _ _ _ _ _ => True) (fun _ U o U' => ∃ v L, o = .returned v ∧ Q v U'.heap L ∧ FrameEnd U o U' L rm.cells rm.slots))
    (eT : T.heap = h) (E : Exa Z h a nm) {W : Nat} (hR : rm.frames + 1 ≤ R.frames ∧ W + (maxL + 11) + rm.locals ≤ R.locals ∧ cells + rm.cells ≤ R.cells ∧ slots + rm.slots ≤ R.slots)
    {g : JFrame} (hg : g.method = m) (hsize : g.locals.size = c.maxLocals) {argsL rest : List Value} (hlen : ∀ sig, parseMethodDescriptor y.desc = some sig → argsL.length = sig.parameters.length) (hstack : g.stack = argsL.reverse ++ .ref a :: rest) (has : (.ref a :: argsL).toArray = as') (hW : 2 * g.monitorRoom + (rest.map fun v => v.category).sum ≤ W) (hd : decode c.code g.pc = .ok (.invokevirtual index, 3)) :
    ∃ (v : Option Value) (T' : State) (L : List Loc), Stand p l e R s m args below meth c T' (locs ++ L) (cells + rm.cells) (slots + rm.slots) ∧ Q v T'.heap L ∧ ∀ target, Steps p.tables e below (T'.setTop { g with pc := g.pc + 3, stack := v.toList ++ rest }) target → Steps p.tables e below (T.setTop g) target := by
  obtain ⟨cell, _, qa, -, -, qc, -⟩ := E
  obtain ⟨mk, methM, hnamed, hmethM, -, -⟩ := Cond.instanceMethod_spec (mvT hZ w6 : (Cond.instanceMethod y).before args _ = true)
  obtain ⟨_, _, m2, -, -, q3, -, kr, hkr, hni⟩ := Cond.selects_spec (mvT hZ w5 : (Cond.selects C x0 y0).before args _ = true)
  have hc2 := findClass_of_methodNamed q3
  rw [hyy] at hc2
  have hpr := Cond.privateMethod_at (mvT hZ w7 : (Cond.privateMethod y).before args _ = true)
  have hsel := Jvm.Stand.selects_self_of_private (args := args) hc2 hkr hni hpr (mvT hZ w6) hy
  obtain ⟨v, _, ⟨T', L', k', n'⟩, -, X', ⟨L, hQ, l1, l2, l3⟩, st⟩ := X.privateBack hx (y := y) hown (mvT hZ w1) (mvT hZ w6) hsel hpr (mvT hZ w4) hy (backOf (W := W) hM hZ w4 w3 hR.1 hR.2.1) (g := g) hg hsize (Steps.refl _) (a := a) (cell := cell) (by rw [eT]; exact qa) (fun q eq => by rw [eq] at qc; exact absurd qc (by simp [VmData.isStatics])) (argsL := argsL) (rest := rest) hlen hstack hW hd (fun _ _ => ⟨has, eT, hR.2.2.1, hR.2.2.2⟩)
  dsimp only [Pt.U, Pt.locs, Pt.cells, Pt.slots] at X' l1 l2 l3 st hQ
  subst l1 l2 l3
  exact ⟨v, T', L, X', hQ, fun _ t => st.trans t⟩
theorem own_super (X : Stand p l e R s m args below meth c T locs cells slots) (hx : p.tables.exec = Jvm.exec) (hZ : Z.Warmed39 s.vm) {own : String} {index : Nat} {y x0 y0 : MethodName} {bytes : ByteArray} {maxL : Nat} {ret : Option FieldType} {rm : Room} {Q : Option Value → Heap → List Loc → Prop} {as' : Array Value}
    (hown : s.vm.findClass own = some m.cls) (w1 : (Cond.methodLink own index y).before a0 Z = true) (w6 : (Cond.instanceMethod y).before a0 Z = true) (w5 : (Cond.selects C x0 y0).before a0 Z = true) (hyy : y0.cls = y.cls) (w8 : (Cond.superclass own y.cls).before a0 Z = true) (hyn : y.name ≠ "<init>") (w3 : (Cond.initialized y.cls).before a0 Z = true) (w4 : (Cond.code y bytes maxL ret).before a0 Z = true) (hy : y.cls ≠ "java/lang/invoke/MethodHandle" ∧ y.cls ≠ "java/lang/invoke/VarHandle")
    (hM : MetFree l y (head1 [Cond.code y bytes maxL ret] rm) (fun a U => a = as' ∧ Z.Warmed39 U.vm ∧ U.heap = h) (fun _ _ _ _ _ => True) (fun _ U o U' => ∃ v L, o = .returned v ∧ Q v U'.heap L ∧ FrameEnd U o U' L rm.cells rm.slots))
    (eT : T.heap = h) (E : Exa Z h a nm) {W : Nat} (hR : rm.frames + 1 ≤ R.frames ∧ W + (maxL + 11) + rm.locals ≤ R.locals ∧ cells + rm.cells ≤ R.cells ∧ slots + rm.slots ≤ R.slots)
    {g : JFrame} (hg : g.method = m) (hsize : g.locals.size = c.maxLocals) {argsL rest : List Value} (hlen : ∀ sig, parseMethodDescriptor y.desc = some sig → argsL.length = sig.parameters.length) (hstack : g.stack = argsL.reverse ++ .ref a :: rest) (has : (.ref a :: argsL).toArray = as') (hW : 2 * g.monitorRoom + (rest.map fun v => v.category).sum ≤ W) (hd : decode c.code g.pc = .ok (.invokespecial index, 3)) :
    ∃ (v : Option Value) (T' : State) (L : List Loc), Stand p l e R s m args below meth c T' (locs ++ L) (cells + rm.cells) (slots + rm.slots) ∧ Q v T'.heap L ∧ ∀ target, Steps p.tables e below (T'.setTop { g with pc := g.pc + 3, stack := v.toList ++ rest }) target → Steps p.tables e below (T.setTop g) target := by
  obtain ⟨mk, methM, hnamed, hmethM, -, -⟩ := Cond.instanceMethod_spec w6
  obtain ⟨_, _, m2, -, -, q3, -, kr, hkr, hni⟩ := Cond.selects_spec w5
  have hc2 := findClass_of_methodNamed q3
  rw [hyy, findClass_of_methodNamed hnamed] at hc2
  rw [← Option.some.inj hc2] at hkr
  have w2 : (Cond.sameMethod y.cls y.cls y.name y.desc).before a0 Z = true := by
    simp [Cond.before, Cond.holds, Cond.value, findClass_of_methodNamed hnamed, State.methodFound?_of_named hnamed hy, hnamed, hkr, hni]
  obtain ⟨v, _, ⟨T', L', k', n'⟩, -, X', ⟨L, hQ, l1, l2, l3⟩, st⟩ := superBack X hx hZ (y := y) hown w1 w2 w6 w8 hyn (backOf (W := W) hM hZ w4 w3 hR.1 hR.2.1) eT (Ins.self E) (g := g) hg hsize w4 (argsL := argsL) (rest := rest) hlen hstack hW hd (fun _ _ => ⟨has, eT, hR.2.2.1, hR.2.2.2⟩)
  dsimp only [Pt.U, Pt.locs, Pt.cells, Pt.slots] at X' l1 l2 l3 st hQ
  subst l1 l2 l3
  exact ⟨v, T', L, X', hQ, fun _ t => st.trans t⟩
theorem own_face (X : Stand p l e R s m args below meth c T locs cells slots) (hx : p.tables.exec = Jvm.exec) (hZ : Z.Warmed39 s.vm) {own : String} {index count : Nat} {y z : MethodName} {bytes : ByteArray} {maxL : Nat} {ret : Option FieldType} {rm : Room} {Q : Option Value → Heap → List Loc → Prop} {as' : Array Value}
    (hown : s.vm.findClass own = some m.cls) (w1 : (Cond.methodLink own index y).before a0 Z = true) (w2 : (Cond.declares y).before a0 Z = true) (wf : (Cond.interfaceMethod y.cls y.cls y.name y.desc).before args s = true) (w5 : (Cond.selects C y z).before a0 Z = true) (w6 : (Cond.instanceMethod z).before a0 Z = true) (w7 : (Cond.publicMethod z).before a0 Z = true) (w8 : (Cond.unhidden C y.name y.desc).before a0 Z = true) (w9 : (Cond.castable C y.cls).before a0 Z = true) (w3 : (Cond.initialized z.cls).before a0 Z = true) (w4 : (Cond.code z bytes maxL ret).before a0 Z = true) (hy : y.cls ≠ "java/lang/invoke/MethodHandle" ∧ y.cls ≠ "java/lang/invoke/VarHandle")
    (hM : MetFree l z (head1 [Cond.code z bytes maxL ret] rm) (fun a U => a = as' ∧ Z.Warmed39 U.vm ∧ U.heap = h) (fun _ _ _ _ _ => True) (fun _ U o U' => ∃ v L, o = .returned v ∧ Q v U'.heap L ∧ FrameEnd U o U' L rm.cells rm.slots))
    (eT : T.heap = h) (E : Exa Z h a C) {W : Nat} (hR : rm.frames + 1 ≤ R.frames ∧ W + (maxL + 11) + rm.locals ≤ R.locals ∧ cells + rm.cells ≤ R.cells ∧ slots + rm.slots ≤ R.slots)
    {g : JFrame} (hg : g.method = m) (hsize : g.locals.size = c.maxLocals) {argsL rest : List Value} (hlen : ∀ sig, parseMethodDescriptor y.desc = some sig → argsL.length = sig.parameters.length) (hstack : g.stack = argsL.reverse ++ .ref a :: rest) (has : (.ref a :: argsL).toArray = as') (hW : 2 * g.monitorRoom + (rest.map fun v => v.category).sum ≤ W) (hd : decode c.code g.pc = .ok (.invokeinterface index count, 5)) :
    ∃ (v : Option Value) (T' : State) (L : List Loc), Stand p l e R s m args below meth c T' (locs ++ L) (cells + rm.cells) (slots + rm.slots) ∧ Q v T'.heap L ∧ ∀ target, Steps p.tables e below (T'.setTop { g with pc := g.pc + 5, stack := v.toList ++ rest }) target → Steps p.tables e below (T.setTop g) target := by
  obtain ⟨cq, kq, qa, qb, qc⟩ := isOf hZ eT E
  obtain ⟨v, _, ⟨T', L', k', n'⟩, -, X', ⟨L, hQ, l1, l2, l3⟩, st⟩ := X.interfaceBack hx (xi := y) (y := z) hown (mvT hZ w1) (mvT hZ w2) wf (mvT hZ w5) (mvT hZ w6) (mvT hZ w7) (mvT hZ w8) (mvT hZ w9) hy (backOf (W := W) hM hZ w4 w3 hR.1 hR.2.1) qa qb qc (g := g) hg hsize (Steps.refl _) (argsL := argsL) (rest := rest) hlen hstack hW hd (fun _ _ => ⟨has, eT, hR.2.2.1, hR.2.2.2⟩)
  dsimp only [Pt.U, Pt.locs, Pt.cells, Pt.slots] at X' l1 l2 l3 st hQ
  subst l1 l2 l3
  exact ⟨v, T', L, X', hQ, fun _ t => st.trans t⟩
theorem own_mvR {U : State} {own O : String} {index : Nat} (hZ : Z.Warmed39 U.vm) (w : (Cond.fieldRef own index O nm dd).before a0 Z = true) : (Cond.fieldRef own index O nm dd).before args U = true := (Cond.fieldRef_warmed39 (s := Z) (vm' := U.vm) hZ w :)
theorem own_getFR (X : Stand p l e R s m args below meth c T locs cells slots) (hx : p.tables.exec = Jvm.exec) (hZ : Z.Warmed39 s.vm) {own O : String} {index : Nat} (hown : s.vm.findClass own = some m.cls) (w : (Cond.fieldRef own index O nm dd).before a0 Z = true)
    (eT : T.heap = h) (F : Fld Z h a O nm dd v) {g : JFrame} (hg : g.method = m) {rest : List Value} (hs : g.stack = .ref a :: rest) (hd : decode c.code g.pc = .ok (.getfield index, 3)) : ∃ T', Stand p l e R s m args below meth c T' locs cells slots ∧ T'.heap = h ∧ ∀ target, Steps p.tables e below (T'.setTop { g with pc := g.pc + 3, stack := v :: rest }) target → Steps p.tables e below (T.setTop g) target := by
  obtain ⟨cell, cf, k, i, f, h1, h2, h3, h4, -, -, h7⟩ := F
  have hZT : Z.Warmed39 T.vm := wtrans hZ X.warmed
  have hownT : T.vm.findClass own = some m.cls := by rw [X.warmed.alike.findClass]; exact hown
  obtain ⟨cf', k', i', f', g1, hready⟩ := Cond.fieldRef_spec hownT (own_mvR (args := args) hZT w)
  obtain ⟨k2, g2, -⟩ := State.fieldFound?_setVm (s := Z) hZT.alike h2
  cases (show T.fieldFound? O nm dd = _ from g2).symm.trans g1
  refine ⟨T, X, eT, fun target hrest => ?_⟩
  subst hg
  jvm_step X.here [hx, hd, getfield.wp_ready (e := e) (s := T) (f := g) X.here.top hready h3 hs (show T.heap[a]? = some cell by rw [eT]; exact h1) h4 h7]
  exact hrest
theorem own_putFR (X : Stand p l e R s m args below meth c T locs cells slots) (hx : p.tables.exec = Jvm.exec) (hZ : Z.Warmed39 s.vm) {own O : String} {index kk : Nat} (hown : s.vm.findClass own = some m.cls) (w : (Cond.fieldRef own index O nm dd).before a0 Z = true)
    (eT : T.heap = h) {old : Value} (F : Fld Z h a O nm dd old) (E : Exa Z h a C) (L : (Cond.lays C O nm dd).before a0 Z = true) (wi : (Cond.instantiable C kk).before a0 Z = true)
    (hty : parseFieldDescriptor dd = some ty) (hn : narrow ty v = v) (hf : fits ty v = true) {g : JFrame} (hg : g.method = m) {rest : List Value} (hs : g.stack = v :: .ref a :: rest) (hd : decode c.code g.pc = .ok (.putfield index, 3)) :
    ∃ T' h', Stand p l e R s m args below meth c T' (locs ++ [⟨a, Jvm.RoadKit.slotOf Z O nm dd⟩]) cells slots ∧ T'.heap = h' ∧ Wr h h' a (Jvm.RoadKit.slotOf Z O nm dd) v ∧ ∀ target, Steps p.tables e below (T'.setTop { g with pc := g.pc + 3, stack := rest }) target → Steps p.tables e below (T.setTop g) target := by
  obtain ⟨cell, cf, k, i, f, h1, h2, h3, h4, h5, -, h7⟩ := F
  obtain ⟨cell', kc, e1, e2, e3, -⟩ := E
  cases h1.symm.trans e1
  obtain ⟨c1, k1, cf1, kf1, i1, f1, a1, a2, a3, -, -, a6, -⟩ := Laid.spec (Or.inl L)
  cases h2.symm.trans a3
  cases e2.symm.trans a1
  obtain ⟨c2, k2, i1, i2, i3, -⟩ := Cond.instantiable_spec wi
  cases e2.symm.trans i1
  cases a2.symm.trans i2
  have ht := (State.fieldFound?_type h2 hty).2
  have hfit : Z.fitsSlot cell.cls cell.vm f.slot v = true := by
    have q : Z.slotType? cell.cls cell.vm f.slot = some ty := by
      simp only [State.slotType?, a2, Option.bind_eq_bind, Option.bind_some, i3]
      cases hq : cell.vm <;> first | (rw [hq] at h5; exact Bool.noConfusion h5) | (rw [a6, ht])
    simp [State.fitsSlot, q, hf]
  have hZT : Z.Warmed39 T.vm := wtrans hZ X.warmed
  have hfit' : T.fitsSlot cell.cls cell.vm f.slot v = true := by rw [← State.fitsSlot_setVm hZT.alike] at hfit; exact hfit
  have hfin : hasFlag f.accessFlags Acc.final = false := by
    obtain ⟨_, _, _, _, _, _, -, -, b3, -, b5, -⟩ := Cond.lays_spec L
    cases h2.symm.trans b3
    exact b5
  have hownT : T.vm.findClass own = some m.cls := by rw [X.warmed.alike.findClass]; exact hown
  obtain ⟨cf', k', i', f', g1, hready⟩ := Cond.fieldRef_spec hownT (own_mvR (args := args) hZT w)
  obtain ⟨k3, g2, -⟩ := State.fieldFound?_setVm (s := Z) hZT.alike h2
  cases (show T.fieldFound? O nm dd = _ from g2).symm.trans g1
  have hlt := (Array.getElem?_eq_some_iff.mp h7).1
  have es : Jvm.RoadKit.slotOf Z O nm dd = f.slot := by simp [Jvm.RoadKit.slotOf, h2]
  rw [es]
  obtain ⟨X', st⟩ := X.putfieldReady hx hready h3 (Or.inl hfin) (show T.heap[a]? = some cell by rw [eT]; exact h1) h4 hlt (by rw [ht]; exact hn) hfit' hg hs hd
  exact ⟨_, _, X', rfl, ⟨cell, h1, h5, hlt, by rw [← eT]; rfl⟩, st⟩
end Own
/-- a body's contract -/
abbrev MF (l : Launch) (Z : State) (y : MethodName) (bytes : ByteArray) (maxL : Nat) (ret : Option FieldType) (ws : List Jvm.Cond) (rm : Room) (as' : Array Value) (h0 : Heap) (Q : Option Value → Heap → List Loc → Prop) : Prop :=
  MetFree l y (head1 (Jvm.Cond.code y bytes maxL ret :: ws) rm) (fun a U => a = as' ∧ Z.Warmed39 U.vm ∧ U.heap = h0) (fun _ _ _ _ _ => True) (fun _ U o U' => ∃ v L, o = .returned v ∧ Q v U'.heap L ∧ FrameEnd U o U' L rm.cells rm.slots)
theorem own_body {l : Launch} {Z : State} {y : MethodName} {bytes : ByteArray} {maxL : Nat} {ret : Option FieldType} {ws : List Jvm.Cond} {rm : Room} {as' : Array Value} {h0 : Heap} {Q : Option Value → Heap → List Loc → Prop} {k n : Nat} {L0 : Array Slot} (hp : plainFor y = true) (hef : ∀ m, entryFrame m as' maxL = mkF m 0 L0 []) (hk : k ≤ rm.cells) (hn : n ≤ rm.slots)
    (H : ∀ (p : Program) (e : Env) (s : State) (m : MethodId) (below : List Frame) (meth : Method) (c : Code) (s₁ : State), p.tables.exec = Jvm.exec → c.code = bytes → c.maxLocals = maxL → s.vm.findClass y.cls = some m.cls → meth.name = y.name → meth.sig.returnType = ret → Z.Warmed39 s.vm → s.heap = h0 → s₁.heap = h0 → Stand p l e rm s m as' below meth c s₁ [] 0 0 →
      ∃ (T : State) (L : List Loc) (v : Option Value), Stand p l e rm s m as' below meth c T L k n ∧ (ret = none → v = none) ∧ Q v T.heap L ∧ ∀ fs, (∀ (f : JFrame) (acts : List Action), f.method = m → f.locked = none → f.entered = [] → (doReturn e (T.setTop f) acts v).1 = T.setFrames fs) → Steps p.tables e below (s₁.setTop (mkF m 0 L0 [])) (T.setFrames fs)) :
    MetFree l y (head1 (Jvm.Cond.code y bytes maxL ret :: ws) rm) (fun a U => a = as' ∧ Z.Warmed39 U.vm ∧ U.heap = h0) (fun _ _ _ _ _ => True) (fun _ U o U' => ∃ v L, o = .returned v ∧ Q v U'.heap L ∧ FrameEnd U o U' L k n) := by
  refine MetFree.of_bodySF hp hisR ?_
  intro p e s m args below meth c s₁ Bd hml0 hP hK
  obtain ⟨rfl, hZ, hh⟩ := hP
  have e0 : s₁.heap = h0 := by rw [← hh, Bd.state]; rfl
  have hnm := (name_of_methodNamed Bd.named Bd.method).1
  obtain ⟨T, L, v, X, hv, hQ, st⟩ := H p e s m below meth c s₁ Bd.exec Bd.bytes hml0 (findClass_of_methodNamed Bd.named) hnm Bd.returns hZ hh e0 (Stand.of_body Bd)
  obtain ⟨fs, hr, hrun, hended, hW, hsame⟩ := X.leave (v := v) (fun h => hv (Bd.returns.symm.trans h)) Bd.notSynchronized
  refine ⟨_, _, castTop (hef m) (st fs hr), hrun, hended, v, L, rfl, ?_, ⟨_, rfl⟩, hW, hsame⟩
  exact hQ
theorem own_law {l : Launch} {Z : State} {y : MethodName} {bytes : ByteArray} {maxL : Nat} {ret : Option FieldType} {ws : List Jvm.Cond} {rm : Room} {as' : Array Value} {h0 : Heap} {Q : Option Value → List Loc → Prop} {k n k' n' : Nat} {L0 : Array Slot} (hp : plainFor y = true) (hef : ∀ m, entryFrame m as' maxL = mkF m 0 L0 []) (hk : k ≤ k') (hn : n ≤ n')
    (H : ∀ (p : Program) (e : Env) (s : State) (m : MethodId) (below : List Frame) (meth : Method) (c : Code) (s₁ : State), p.tables.exec = Jvm.exec → c.code = bytes → c.maxLocals = maxL → s.vm.findClass y.cls = some m.cls → meth.name = y.name → meth.sig.returnType = ret → Z.Warmed39 s.vm → s.heap = h0 → s₁.heap = h0 → Stand p l e rm s m as' below meth c s₁ [] 0 0 →
      ∃ (T : State) (L : List Loc) (v : Option Value), Stand p l e rm s m as' below meth c T L k n ∧ (ret = none → v = none) ∧ Q v L ∧ ∀ fs, (∀ (f : JFrame) (acts : List Action), f.method = m → f.locked = none → f.entered = [] → (doReturn e (T.setTop f) acts v).1 = T.setFrames fs) → Steps p.tables e below (s₁.setTop (mkF m 0 L0 [])) (T.setFrames fs)) :
    MetFree l y (head1 (Jvm.Cond.code y bytes maxL ret :: ws) rm) (fun a U => a = as' ∧ Z.Warmed39 U.vm ∧ U.heap = h0) (fun _ _ _ _ _ => True) (fun _ U o U' => ∃ v L, o = .returned v ∧ Q v L ∧ FrameEnd U o U' L k' n') := by
  refine MetFree.of_bodySF hp hisR ?_
  intro p e s m args below meth c s₁ Bd hml0 hP hK
  obtain ⟨rfl, hZ, hh⟩ := hP
  have e0 : s₁.heap = h0 := by rw [← hh, Bd.state]; rfl
  have hnm := (name_of_methodNamed Bd.named Bd.method).1
  obtain ⟨T, L, v, X, hv, hQ, st⟩ := H p e s m below meth c s₁ Bd.exec Bd.bytes hml0 (findClass_of_methodNamed Bd.named) hnm Bd.returns hZ hh e0 (Stand.of_body Bd)
  obtain ⟨fs, hr, hrun, hended, hW, hsame⟩ := X.leave (v := v) (fun h => hv (Bd.returns.symm.trans h)) Bd.notSynchronized
  refine ⟨_, _, castTop (hef m) (st fs hr), hrun, hended, v, L, rfl, ?_, ⟨_, rfl⟩, hW, hsame.mono hk hn⟩
  exact hQ
theorem t_iloadN {tb : Tables} [Ours tb] {e : Env} {below : List Frame} {T target : State} {m : MethodId} {c : Code} {pc : Nat} {L : Array Slot} {S : List Value} {v : Int32} {k : Fin 4} (pc' : Nat) (h : At T m c below) (hx : tb.exec = Jvm.exec) (hd : decode c.code pc = .ok (.iload_n k, 1)) (hl : L[k.val]? = some (.val (.int v))) (hp : pc + 1 = pc') (hr : Steps tb e below (T.setTop (mkF m pc' L (.int v :: S))) target) : Steps tb e below (T.setTop (mkF m pc L (S))) target := by
  subst hp; exact XS.iloadN h hx rfl hd hl hr
theorem t_iload {tb : Tables} [Ours tb] {e : Env} {below : List Frame} {T target : State} {m : MethodId} {c : Code} {pc : Nat} {L : Array Slot} {S : List Value} {v : Int32} {k : Nat} (pc' : Nat) (h : At T m c below) (hx : tb.exec = Jvm.exec) (hd : decode c.code pc = .ok (.iload k, 2)) (hl : L[k]? = some (.val (.int v))) (hp : pc + 2 = pc') (hr : Steps tb e below (T.setTop (mkF m pc' L (.int v :: S))) target) : Steps tb e below (T.setTop (mkF m pc L (S))) target := by
  subst hp; exact XS.iload h hx rfl hd hl hr
theorem t_aloadN {tb : Tables} [Ours tb] {e : Env} {below : List Frame} {T target : State} {m : MethodId} {c : Code} {pc : Nat} {L : Array Slot} {S : List Value} {v : Value} {k : Fin 4} (pc' : Nat) (h : At T m c below) (hx : tb.exec = Jvm.exec) (hd : decode c.code pc = .ok (.aload_n k, 1)) (hl : L[k.val]? = some (.val v)) (hv : v.isRef = true) (hp : pc + 1 = pc') (hr : Steps tb e below (T.setTop (mkF m pc' L (v :: S))) target) : Steps tb e below (T.setTop (mkF m pc L (S))) target := by
  subst hp; exact XS.aloadN h hx rfl hd hl hv hr
theorem t_aload {tb : Tables} [Ours tb] {e : Env} {below : List Frame} {T target : State} {m : MethodId} {c : Code} {pc : Nat} {L : Array Slot} {S : List Value} {v : Value} {k : Nat} (pc' : Nat) (h : At T m c below) (hx : tb.exec = Jvm.exec) (hd : decode c.code pc = .ok (.aload k, 2)) (hl : L[k]? = some (.val v)) (hv : v.isRef = true) (hp : pc + 2 = pc') (hr : Steps tb e below (T.setTop (mkF m pc' L (v :: S))) target) : Steps tb e below (T.setTop (mkF m pc L (S))) target := by
  subst hp; exact XS.aload h hx rfl hd hl hv hr
theorem t_istoreN {tb : Tables} [Ours tb] {e : Env} {below : List Frame} {T target : State} {m : MethodId} {c : Code} {pc : Nat} {L : Array Slot} {S : List Value} {v : Int32} {k : Fin 4} {L' : Array Slot} (pc' : Nat) (h : At T m c below) (hx : tb.exec = Jvm.exec) (hd : decode c.code pc = .ok (.istore_n k, 1)) (hl : storeLocals L k.val (.int v) = some L') (hp : pc + 1 = pc') (hr : Steps tb e below (T.setTop (mkF m pc' L' (S))) target) : Steps tb e below (T.setTop (mkF m pc L (.int v :: S))) target := by
  subst hp; exact XS.istoreN h hx rfl hd rfl hl hr
theorem t_istore {tb : Tables} [Ours tb] {e : Env} {below : List Frame} {T target : State} {m : MethodId} {c : Code} {pc : Nat} {L : Array Slot} {S : List Value} {v : Int32} {k : Nat} {L' : Array Slot} (pc' : Nat) (h : At T m c below) (hx : tb.exec = Jvm.exec) (hd : decode c.code pc = .ok (.istore k, 2)) (hl : storeLocals L k (.int v) = some L') (hp : pc + 2 = pc') (hr : Steps tb e below (T.setTop (mkF m pc' L' (S))) target) : Steps tb e below (T.setTop (mkF m pc L (.int v :: S))) target := by
  subst hp; exact XS.istore h hx rfl hd rfl hl hr
theorem t_astoreN {tb : Tables} [Ours tb] {e : Env} {below : List Frame} {T target : State} {m : MethodId} {c : Code} {pc : Nat} {L : Array Slot} {S : List Value} {v : Value} {k : Fin 4} {L' : Array Slot} (pc' : Nat) (h : At T m c below) (hx : tb.exec = Jvm.exec) (hd : decode c.code pc = .ok (.astore_n k, 1)) (hv : v.isRef = true) (hl : storeLocals L k.val v = some L') (hp : pc + 1 = pc') (hr : Steps tb e below (T.setTop (mkF m pc' L' (S))) target) : Steps tb e below (T.setTop (mkF m pc L (v :: S))) target := by
  subst hp; exact XS.astoreN h hx rfl hd rfl hv hl hr
theorem t_astore {tb : Tables} [Ours tb] {e : Env} {below : List Frame} {T target : State} {m : MethodId} {c : Code} {pc : Nat} {L : Array Slot} {S : List Value} {v : Value} {k : Nat} {L' : Array Slot} (pc' : Nat) (h : At T m c below) (hx : tb.exec = Jvm.exec) (hd : decode c.code pc = .ok (.astore k, 2)) (hv : v.isRef = true) (hl : storeLocals L k v = some L') (hp : pc + 2 = pc') (hr : Steps tb e below (T.setTop (mkF m pc' L' (S))) target) : Steps tb e below (T.setTop (mkF m pc L (v :: S))) target := by
  subst hp; exact XS.astore h hx rfl hd rfl hv hl hr
theorem t_iconst {tb : Tables} [Ours tb] {e : Env} {below : List Frame} {T target : State} {m : MethodId} {c : Code} {pc : Nat} {L : Array Slot} {S : List Value} {i : Int} {r : Int32} (pc' : Nat) (h : At T m c below) (hx : tb.exec = Jvm.exec) (hd : decode c.code pc = .ok (.iconst i, 1)) (he : Int32.ofInt i = r) (hp : pc + 1 = pc') (hr : Steps tb e below (T.setTop (mkF m pc' L (.int r :: S))) target) : Steps tb e below (T.setTop (mkF m pc L (S))) target := by
  subst hp he; exact XS.iconst h hx rfl hd hr
theorem t_aconst_null {tb : Tables} [Ours tb] {e : Env} {below : List Frame} {T target : State} {m : MethodId} {c : Code} {pc : Nat} {L : Array Slot} {S : List Value}  (pc' : Nat) (h : At T m c below) (hx : tb.exec = Jvm.exec) (hd : decode c.code pc = .ok (.aconst_null, 1)) (hp : pc + 1 = pc') (hr : Steps tb e below (T.setTop (mkF m pc' L (.null :: S))) target) : Steps tb e below (T.setTop (mkF m pc L (S))) target := by
  subst hp; exact XS.aconstNull h hx rfl hd hr
theorem t_iadd {tb : Tables} [Ours tb] {e : Env} {below : List Frame} {T target : State} {m : MethodId} {c : Code} {pc : Nat} {L : Array Slot} {S : List Value} {x y r : Int32} (pc' : Nat) (h : At T m c below) (hx : tb.exec = Jvm.exec) (hd : decode c.code pc = .ok (.iadd, 1)) (he : x + y = r) (hp : pc + 1 = pc') (hr : Steps tb e below (T.setTop (mkF m pc' L (.int r :: S))) target) : Steps tb e below (T.setTop (mkF m pc L (.int y :: .int x :: S))) target := by
  subst hp he; exact XS.iadd h hx rfl hd rfl hr
theorem t_isub {tb : Tables} [Ours tb] {e : Env} {below : List Frame} {T target : State} {m : MethodId} {c : Code} {pc : Nat} {L : Array Slot} {S : List Value} {x y r : Int32} (pc' : Nat) (h : At T m c below) (hx : tb.exec = Jvm.exec) (hd : decode c.code pc = .ok (.isub, 1)) (he : x - y = r) (hp : pc + 1 = pc') (hr : Steps tb e below (T.setTop (mkF m pc' L (.int r :: S))) target) : Steps tb e below (T.setTop (mkF m pc L (.int y :: .int x :: S))) target := by
  subst hp he; exact XS.isub h hx rfl hd rfl hr
theorem t_iand {tb : Tables} [Ours tb] {e : Env} {below : List Frame} {T target : State} {m : MethodId} {c : Code} {pc : Nat} {L : Array Slot} {S : List Value} {x y r : Int32} (pc' : Nat) (h : At T m c below) (hx : tb.exec = Jvm.exec) (hd : decode c.code pc = .ok (.iand, 1)) (he : x &&& y = r) (hp : pc + 1 = pc') (hr : Steps tb e below (T.setTop (mkF m pc' L (.int r :: S))) target) : Steps tb e below (T.setTop (mkF m pc L (.int y :: .int x :: S))) target := by
  subst hp he; exact XS.iand h hx rfl hd rfl hr
theorem t_dup {tb : Tables} [Ours tb] {e : Env} {below : List Frame} {T target : State} {m : MethodId} {c : Code} {pc : Nat} {L : Array Slot} {S : List Value} {x : Value} (pc' : Nat) (h : At T m c below) (hx : tb.exec = Jvm.exec) (hd : decode c.code pc = .ok (.dup, 1)) (hc : x.category = 1) (hp : pc + 1 = pc') (hr : Steps tb e below (T.setTop (mkF m pc' L (x :: x :: S))) target) : Steps tb e below (T.setTop (mkF m pc L (x :: S))) target := by
  subst hp; exact XS.dup h hx rfl hd rfl hc hr
theorem t_goto {tb : Tables} [Ours tb] {e : Env} {below : List Frame} {T target : State} {m : MethodId} {c : Code} {pc : Nat} {L : Array Slot} {S : List Value} {o : Int} (pc' : Nat) (h : At T m c below) (hx : tb.exec = Jvm.exec) (hd : decode c.code pc = .ok (.goto o, 3)) (ho : 0 ≤ (pc : Int) + o) (hp : ((pc : Int) + o).toNat = pc') (hr : Steps tb e below (T.setTop (mkF m pc' L (S))) target) : Steps tb e below (T.setTop (mkF m pc L (S))) target := by
  exact XS.goto h hx rfl rfl hd ho hp hr
theorem t_ifYes {tb : Tables} [Ours tb] {e : Env} {below : List Frame} {T target : State} {m : MethodId} {c : Code} {pc : Nat} {L : Array Slot} {S : List Value} {cd : ClassFile.Cond} {x : Int32} {o : Int} (pc' : Nat) (h : At T m c below) (hx : tb.exec = Jvm.exec) (hd : decode c.code pc = .ok (.ifCond cd o, 3)) (hc : ifCond.holds cd x = true) (ho : 0 ≤ (pc : Int) + o) (hp : ((pc : Int) + o).toNat = pc') (hr : Steps tb e below (T.setTop (mkF m pc' L (S))) target) : Steps tb e below (T.setTop (mkF m pc L (.int x :: S))) target := by
  exact XS.ifYes h hx rfl rfl hd rfl hc ho hp hr
theorem t_ifNo {tb : Tables} [Ours tb] {e : Env} {below : List Frame} {T target : State} {m : MethodId} {c : Code} {pc : Nat} {L : Array Slot} {S : List Value} {cd : ClassFile.Cond} {x : Int32} {o : Int} (pc' : Nat) (h : At T m c below) (hx : tb.exec = Jvm.exec) (hd : decode c.code pc = .ok (.ifCond cd o, 3)) (hc : ifCond.holds cd x = false) (hp : pc + 3 = pc') (hr : Steps tb e below (T.setTop (mkF m pc' L (S))) target) : Steps tb e below (T.setTop (mkF m pc L (.int x :: S))) target := by
  subst hp; exact XS.ifNo h hx rfl hd rfl hc hr
theorem t_icmpYes {tb : Tables} [Ours tb] {e : Env} {below : List Frame} {T target : State} {m : MethodId} {c : Code} {pc : Nat} {L : Array Slot} {S : List Value} {cd : ClassFile.Cond} {x y : Int32} {o : Int} (pc' : Nat) (h : At T m c below) (hx : tb.exec = Jvm.exec) (hd : decode c.code pc = .ok (.if_icmp cd o, 3)) (hc : if_icmp.holds cd x y = true) (ho : 0 ≤ (pc : Int) + o) (hp : ((pc : Int) + o).toNat = pc') (hr : Steps tb e below (T.setTop (mkF m pc' L (S))) target) : Steps tb e below (T.setTop (mkF m pc L (.int y :: .int x :: S))) target := by
  exact XS.icmpYes h hx rfl rfl hd rfl hc ho hp hr
theorem t_icmpNo {tb : Tables} [Ours tb] {e : Env} {below : List Frame} {T target : State} {m : MethodId} {c : Code} {pc : Nat} {L : Array Slot} {S : List Value} {cd : ClassFile.Cond} {x y : Int32} {o : Int} (pc' : Nat) (h : At T m c below) (hx : tb.exec = Jvm.exec) (hd : decode c.code pc = .ok (.if_icmp cd o, 3)) (hc : if_icmp.holds cd x y = false) (hp : pc + 3 = pc') (hr : Steps tb e below (T.setTop (mkF m pc' L (S))) target) : Steps tb e below (T.setTop (mkF m pc L (.int y :: .int x :: S))) target := by
  subst hp; exact XS.icmpNo h hx rfl hd rfl hc hr
theorem t_ifnullYes {tb : Tables} [Ours tb] {e : Env} {below : List Frame} {T target : State} {m : MethodId} {c : Code} {pc : Nat} {L : Array Slot} {S : List Value} {o : Int} (pc' : Nat) (h : At T m c below) (hx : tb.exec = Jvm.exec) (hd : decode c.code pc = .ok (.ifnull o, 3)) (ho : 0 ≤ (pc : Int) + o) (hp : ((pc : Int) + o).toNat = pc') (hr : Steps tb e below (T.setTop (mkF m pc' L (S))) target) : Steps tb e below (T.setTop (mkF m pc L (.null :: S))) target := by
  exact XS.ifnullYes h hx rfl rfl hd rfl ho hp hr
theorem t_ifnullNo {tb : Tables} [Ours tb] {e : Env} {below : List Frame} {T target : State} {m : MethodId} {c : Code} {pc : Nat} {L : Array Slot} {S : List Value} {b : Addr} {o : Int} (pc' : Nat) (h : At T m c below) (hx : tb.exec = Jvm.exec) (hd : decode c.code pc = .ok (.ifnull o, 3)) (hp : pc + 3 = pc') (hr : Steps tb e below (T.setTop (mkF m pc' L (S))) target) : Steps tb e below (T.setTop (mkF m pc L (.ref b :: S))) target := by
  subst hp; exact XS.ifnullNo h hx rfl hd rfl hr
theorem t_ifnonnullYes {tb : Tables} [Ours tb] {e : Env} {below : List Frame} {T target : State} {m : MethodId} {c : Code} {pc : Nat} {L : Array Slot} {S : List Value} {b : Addr} {o : Int} (pc' : Nat) (h : At T m c below) (hx : tb.exec = Jvm.exec) (hd : decode c.code pc = .ok (.ifnonnull o, 3)) (ho : 0 ≤ (pc : Int) + o) (hp : ((pc : Int) + o).toNat = pc') (hr : Steps tb e below (T.setTop (mkF m pc' L (S))) target) : Steps tb e below (T.setTop (mkF m pc L (.ref b :: S))) target := by
  exact XS.ifnonnullYes h hx rfl rfl hd rfl ho hp hr
theorem t_ifnonnullNo {tb : Tables} [Ours tb] {e : Env} {below : List Frame} {T target : State} {m : MethodId} {c : Code} {pc : Nat} {L : Array Slot} {S : List Value} {o : Int} (pc' : Nat) (h : At T m c below) (hx : tb.exec = Jvm.exec) (hd : decode c.code pc = .ok (.ifnonnull o, 3)) (hp : pc + 3 = pc') (hr : Steps tb e below (T.setTop (mkF m pc' L (S))) target) : Steps tb e below (T.setTop (mkF m pc L (.null :: S))) target := by
  subst hp; exact XS.ifnonnullNo h hx rfl hd rfl hr
abbrev HW (Z : State) (a0 : Array Value) : Prop := ∀ d ∈ tables_1, d.before a0 Z = true
theorem ow {Z : State} {a0 : Array Value} {d : Jvm.Cond} (i : Nat) (hw : HW Z a0) (q : tables_1[i]? = some d) : d.before a0 Z = true := hw d (List.mem_of_getElem? q)
abbrev z0 : Value := .int 0
abbrev SCS (Z : State) (z : Int32) : Prop := Sta Z Z.heap "java/lang/String" "COMPACT_STRINGS" "Z" (.int z)
variable {Z : State} {a0 : Array Value}
abbrev vr (a : Addr) : Slot := .val (.ref a)
abbrev vi (z : Int32) : Slot := .val (.int z)
theorem own_and3 (x : Int32) : x &&& 3 = 0 ∨ x &&& 3 = 1 ∨ x &&& 3 = 2 ∨ x &&& 3 = 3 := by
  have h := c_mask x 3 2 (by decide) (by decide)
  have h2 : (x &&& 3).toInt = (0 : Int32).toInt ∨ (x &&& 3).toInt = (1 : Int32).toInt ∨ (x &&& 3).toInt = (2 : Int32).toInt ∨ (x &&& 3).toInt = (3 : Int32).toInt := by
    show (x &&& 3).toInt = 0 ∨ (x &&& 3).toInt = 1 ∨ (x &&& 3).toInt = 2 ∨ (x &&& 3).toInt = 3
    omega
  rcases h2 with q | q | q | q
  · exact Or.inl (Int32.toInt_inj.mp q)
  · exact Or.inr (Or.inl (Int32.toInt_inj.mp q))
  · exact Or.inr (Or.inr (Or.inl (Int32.toInt_inj.mp q)))
  · exact Or.inr (Or.inr (Or.inr (Int32.toInt_inj.mp q)))
abbrev b0_ := prog_160_method_1_code
theorem d0 : decode b0_ 0 = .ok (.aload_n 0, 1) := by decide +kernel
theorem d1 : decode b0_ 1 = .ok (.invokespecial 1, 3) := by decide +kernel
def w11 (hw : HW Z a0) := ow 11 hw rfl
def w12 (hw : HW Z a0) := ow 12 hw rfl
def w13 (hw : HW Z a0) := ow 13 hw rfl
theorem d2 : decode b0_ 4 = .ok (.return_, 1) := by decide +kernel
theorem pn_InsertionOrder_Link852 : plainName "com/example/bourse/bourse/sim/InsertionOrder$Link" = true := by first | (simp [plainName, overriddenIn]; done) | decide +kernel
abbrev y0__init_ : MethodName := ⟨"com/example/bourse/bourse/sim/InsertionOrder$Link", "<init>", "()V"⟩
def Q_r_linit (Z : State) (o0 : Addr) (h0 : Heap) (n0 : Nat) (v : Option Value) (h : Heap) (L : List Loc) : Prop := v = none ∧ Fr n0 L ∧ h = h0
theorem ef_r_linit (o0 : Addr) (m : MethodId) : entryFrame m #[(.ref o0)] 1 = mkF m 0 #[.val (.ref o0)] [] := by first | (simp [entryFrame, mkF, argsToLocals, Value.category]; done) | rfl
set_option maxRecDepth 65536 in
set_option maxHeartbeats 40000000 in
theorem r_linit (l : Launch) (Z : State) (a0 : Array Value) (hw : HW Z a0) (ws : List Jvm.Cond) (o0 : Addr) (h0 : Heap) (n0 : Nat) (Z0 : n0 ≤ h0.size) :
    MF l Z y0__init_ b0_ 1 none ws ⟨1, 0, 0, 12⟩ #[(.ref o0)] h0 (Q_r_linit Z o0 h0 n0) := by
  refine own_body (plainFor_of_name pn_InsertionOrder_Link852) (ef_r_linit o0) (by decide) (by decide) ?_
  intro p e s m below meth c s₁ hx hby hml hown hnm hret hZ hh e0 X0
  have N0 := Fr.nil n0
  obtain ⟨T1, X1, e1, st1⟩ := initO X0 hx hZ hown (w11 hw) (w12 hw) (w13 hw) e0 (g := (mkF m 1 #[vr o0] [(.ref o0)])) rfl (by rw [hml]; rfl) rfl (hb hby d1) (by decide) (W := 0) (by show 2 * 0 + _ ≤ _; exact Nat.le_of_eq rfl) (by decide)
  refine ⟨T1, _, none, X1, (fun h => by cases h <;> rfl), ?_, fun fs hr => ?_⟩
  · show Q_r_linit Z o0 h0 n0 _ T1.heap _
    rw [e1]
    exact ⟨rfl, N0, rfl⟩
  · refine t_aloadN 1 X0.here hx (hb hby d0) rfl rfl rfl ?_
    refine st1 _ ?_
    exact X1.returnOut hx hret (hb hby d2) hr
abbrev b1_ := method_1_code
theorem d3 : decode b1_ 0 = .ok (.aload_n 0, 1) := by decide +kernel
theorem d4 : decode b1_ 1 = .ok (.invokespecial 1, 3) := by decide +kernel
def w6 (hw : HW Z a0) := ow 6 hw rfl
def w10 (hw : HW Z a0) := ow 10 hw rfl
def w9 (hw : HW Z a0) := ow 9 hw rfl
theorem pd_0 : parseMethodDescriptor "()V" = some ⟨[], none⟩ := by decide +kernel
def w7 (hw : HW Z a0) := ow 7 hw rfl
theorem d5 : decode b1_ 4 = .ok (.return_, 1) := by decide +kernel
theorem pn_InsertionOrderAddPinLaw273 : plainName "com/example/bourse/bourse/sim/InsertionOrderAddPinLaw" = true := by first | (simp [plainName, overriddenIn]; done) | decide +kernel
abbrev y1__init_ : MethodName := ⟨"com/example/bourse/bourse/sim/InsertionOrderAddPinLaw", "<init>", "()V"⟩
def Q_r_init (Z : State) (o0 : Addr) (h0 : Heap) (n0 : Nat) (v : Option Value) (h : Heap) (L : List Loc) : Prop := v = none ∧ Fr n0 L ∧ h = h0
theorem ef_r_init (o0 : Addr) (m : MethodId) : entryFrame m #[(.ref o0)] 1 = mkF m 0 #[.val (.ref o0)] [] := by first | (simp [entryFrame, mkF, argsToLocals, Value.category]; done) | rfl
set_option maxRecDepth 65536 in
set_option maxHeartbeats 40000000 in
theorem r_init (l : Launch) (Z : State) (a0 : Array Value) (hw : HW Z a0) (ws : List Jvm.Cond) (o0 : Addr) (h0 : Heap) (n0 : Nat) (Z0 : n0 ≤ h0.size) :
    MF l Z y1__init_ b1_ 1 none ws ⟨2, 0, 0, 24⟩ #[(.ref o0)] h0 (Q_r_init Z o0 h0 n0) := by
  refine own_body (plainFor_of_name pn_InsertionOrderAddPinLaw273) (ef_r_init o0) (by decide) (by decide) ?_
  intro p e s m below meth c s₁ hx hby hml hown hnm hret hZ hh e0 X0
  have N0 := Fr.nil n0
  obtain ⟨_, T1, L1, X1, hQ1, st1⟩ := own_init X0 hx hZ rfl hown (w6 hw) (w7 hw) (w9 hw) (w10 hw) (by decide) (r_linit l Z a0 hw [] o0 h0 n0 Z0) e0 (W := 0) (by decide) (g := (mkF m 1 #[vr o0] [(.ref o0)])) rfl (by rw [hml]; rfl) (argsL := []) (rest := []) (lenOf pd_0 rfl) rfl rfl (own_wr rfl rfl) (hb hby d4)
  obtain ⟨rfl, N1q, e1⟩ := hQ1
  have N1 := Fr.app N0 N1q
  refine ⟨T1, _, none, X1, (fun h => by cases h <;> rfl), ?_, fun fs hr => ?_⟩
  · show Q_r_init Z o0 h0 n0 _ T1.heap _
    rw [e1]
    exact ⟨rfl, N1, rfl⟩
  · refine t_aloadN 1 X0.here hx (hb hby d3) rfl rfl rfl ?_
    refine st1 _ ?_
    exact X1.returnOut hx hret (hb hby d5) hr
abbrev b2_ := prog_158_method_1_code
theorem d6 : decode b2_ 0 = .ok (.aload_n 0, 1) := by decide +kernel
theorem d7 : decode b2_ 1 = .ok (.invokespecial 1, 3) := by decide +kernel
def w20 (hw : HW Z a0) := ow 20 hw rfl
theorem d8 : decode b2_ 4 = .ok (.return_, 1) := by decide +kernel
theorem pn_InsertionOrder418 : plainName "com/example/bourse/bourse/sim/InsertionOrder" = true := by first | (simp [plainName, overriddenIn]; done) | decide +kernel
abbrev y2__init_ : MethodName := ⟨"com/example/bourse/bourse/sim/InsertionOrder", "<init>", "()V"⟩
def Q_r_oinit (Z : State) (o0 : Addr) (h0 : Heap) (n0 : Nat) (v : Option Value) (h : Heap) (L : List Loc) : Prop := v = none ∧ Fr n0 L ∧ h = h0
theorem ef_r_oinit (o0 : Addr) (m : MethodId) : entryFrame m #[(.ref o0)] 1 = mkF m 0 #[.val (.ref o0)] [] := by first | (simp [entryFrame, mkF, argsToLocals, Value.category]; done) | rfl
set_option maxRecDepth 65536 in
set_option maxHeartbeats 40000000 in
theorem r_oinit (l : Launch) (Z : State) (a0 : Array Value) (hw : HW Z a0) (ws : List Jvm.Cond) (o0 : Addr) (h0 : Heap) (n0 : Nat) (Z0 : n0 ≤ h0.size) :
    MF l Z y2__init_ b2_ 1 none ws ⟨1, 0, 0, 12⟩ #[(.ref o0)] h0 (Q_r_oinit Z o0 h0 n0) := by
  refine own_body (plainFor_of_name pn_InsertionOrder418) (ef_r_oinit o0) (by decide) (by decide) ?_
  intro p e s m below meth c s₁ hx hby hml hown hnm hret hZ hh e0 X0
  have N0 := Fr.nil n0
  obtain ⟨T1, X1, e1, st1⟩ := initO X0 hx hZ hown (w20 hw) (w12 hw) (w13 hw) e0 (g := (mkF m 1 #[vr o0] [(.ref o0)])) rfl (by rw [hml]; rfl) rfl (hb hby d7) (by decide) (W := 0) (by show 2 * 0 + _ ≤ _; exact Nat.le_of_eq rfl) (by decide)
  refine ⟨T1, _, none, X1, (fun h => by cases h <;> rfl), ?_, fun fs hr => ?_⟩
  · show Q_r_oinit Z o0 h0 n0 _ T1.heap _
    rw [e1]
    exact ⟨rfl, N0, rfl⟩
  · refine t_aloadN 1 X0.here hx (hb hby d6) rfl rfl rfl ?_
    refine st1 _ ?_
    exact X1.returnOut hx hret (hb hby d8) hr
abbrev b3_ := prog_158_method_2_code
theorem d9 : decode b3_ 0 = .ok (.aload_n 1, 1) := by decide +kernel
theorem d10 : decode b3_ 1 = .ok (.astore_n 2, 1) := by decide +kernel
theorem d11 : decode b3_ 2 = .ok (.aload_n 2, 1) := by decide +kernel
theorem d12 : decode b3_ 3 = .ok (.aload_n 0, 1) := by decide +kernel
theorem d13 : decode b3_ 4 = .ok (.getfield 7, 3) := by decide +kernel
def w26 (hw : HW Z a0) := ow 26 hw rfl
abbrev Fd0 (Z : State) (h : Heap) (a : Addr) (v : Value) : Prop := Fld Z h a "com/example/bourse/bourse/sim/InsertionOrder" "last" "Lcom/example/bourse/bourse/sim/InsertionOrder$Link;" v
abbrev sl0 (Z : State) : Nat := Jvm.RoadKit.slotOf Z "com/example/bourse/bourse/sim/InsertionOrder" "last" "Lcom/example/bourse/bourse/sim/InsertionOrder$Link;"
theorem d14 : decode b3_ 7 = .ok (.putfield 13, 3) := by decide +kernel
def w28 (hw : HW Z a0) := ow 28 hw rfl
abbrev Fd1 (Z : State) (h : Heap) (a : Addr) (v : Value) : Prop := Fld Z h a "com/example/bourse/bourse/sim/InsertionOrder$Link" "before" "Ljava/lang/Object;" v
abbrev sl1 (Z : State) : Nat := Jvm.RoadKit.slotOf Z "com/example/bourse/bourse/sim/InsertionOrder$Link" "before" "Ljava/lang/Object;"
abbrev Ex0 (Z : State) (h : Heap) (a : Addr) : Prop := Exa Z h a "com/example/bourse/bourse/sim/InsertionOrderAddPinLaw"
def w29 (hw : HW Z a0) := ow 29 hw rfl
def w1 (hw : HW Z a0) := ow 1 hw rfl
theorem d15 : decode b3_ 10 = .ok (.aload_n 0, 1) := by decide +kernel
theorem d16 : decode b3_ 11 = .ok (.getfield 7, 3) := by decide +kernel
theorem d17 : decode b3_ 14 = .ok (.ifnonnull 11, 3) := by decide +kernel
theorem d18 : decode b3_ 17 = .ok (.aload_n 0, 1) := by decide +kernel
theorem d19 : decode b3_ 18 = .ok (.aload_n 1, 1) := by decide +kernel
theorem d20 : decode b3_ 19 = .ok (.putfield 19, 3) := by decide +kernel
def w30 (hw : HW Z a0) := ow 30 hw rfl
abbrev Fd2 (Z : State) (h : Heap) (a : Addr) (v : Value) : Prop := Fld Z h a "com/example/bourse/bourse/sim/InsertionOrder" "first" "Lcom/example/bourse/bourse/sim/InsertionOrder$Link;" v
abbrev sl2 (Z : State) : Nat := Jvm.RoadKit.slotOf Z "com/example/bourse/bourse/sim/InsertionOrder" "first" "Lcom/example/bourse/bourse/sim/InsertionOrder$Link;"
abbrev Ex1 (Z : State) (h : Heap) (a : Addr) : Prop := Exa Z h a "com/example/bourse/bourse/sim/InsertionOrder"
def w31 (hw : HW Z a0) := ow 31 hw rfl
def w15 (hw : HW Z a0) := ow 15 hw rfl
theorem d21 : decode b3_ 22 = .ok (.goto 13, 3) := by decide +kernel
theorem d22 : decode b3_ 35 = .ok (.aload_n 0, 1) := by decide +kernel
theorem d23 : decode b3_ 36 = .ok (.aload_n 1, 1) := by decide +kernel
theorem d24 : decode b3_ 37 = .ok (.putfield 7, 3) := by decide +kernel
def w27 (hw : HW Z a0) := ow 27 hw rfl
theorem sn_0 {Z : State} {a0 : Array Value} (hw : HW Z a0) : Jvm.RoadKit.slotOf Z "com/example/bourse/bourse/sim/InsertionOrder" "last" "Lcom/example/bourse/bourse/sim/InsertionOrder$Link;" ≠ Jvm.RoadKit.slotOf Z "com/example/bourse/bourse/sim/InsertionOrder" "first" "Lcom/example/bourse/bourse/sim/InsertionOrder$Link;" := slot_ne (C := "com/example/bourse/bourse/sim/InsertionOrder") (a0 := a0) (Or.inl (w27 hw)) (Or.inl (w31 hw)) (by decide) (t := (.object "com/example/bourse/bourse/sim/InsertionOrder$Link")) (t' := (.object "com/example/bourse/bourse/sim/InsertionOrder$Link")) (by decide) (by decide)
theorem d25 : decode b3_ 40 = .ok (.aload_n 0, 1) := by decide +kernel
theorem d26 : decode b3_ 41 = .ok (.dup, 1) := by decide +kernel
theorem d27 : decode b3_ 42 = .ok (.getfield 25, 3) := by decide +kernel
def w32 (hw : HW Z a0) := ow 32 hw rfl
abbrev Fd3 (Z : State) (h : Heap) (a : Addr) (v : Value) : Prop := Fld Z h a "com/example/bourse/bourse/sim/InsertionOrder" "size" "I" v
abbrev sl3 (Z : State) : Nat := Jvm.RoadKit.slotOf Z "com/example/bourse/bourse/sim/InsertionOrder" "size" "I"
def w33 (hw : HW Z a0) := ow 33 hw rfl
theorem sn_1 {Z : State} {a0 : Array Value} (hw : HW Z a0) : Jvm.RoadKit.slotOf Z "com/example/bourse/bourse/sim/InsertionOrder" "size" "I" ≠ Jvm.RoadKit.slotOf Z "com/example/bourse/bourse/sim/InsertionOrder" "first" "Lcom/example/bourse/bourse/sim/InsertionOrder$Link;" := slot_ne (C := "com/example/bourse/bourse/sim/InsertionOrder") (a0 := a0) (Or.inl (w33 hw)) (Or.inl (w31 hw)) (by decide) (t := .int) (t' := (.object "com/example/bourse/bourse/sim/InsertionOrder$Link")) (by decide) (by decide)
theorem sn_2 {Z : State} {a0 : Array Value} (hw : HW Z a0) : Jvm.RoadKit.slotOf Z "com/example/bourse/bourse/sim/InsertionOrder" "size" "I" ≠ Jvm.RoadKit.slotOf Z "com/example/bourse/bourse/sim/InsertionOrder" "last" "Lcom/example/bourse/bourse/sim/InsertionOrder$Link;" := slot_ne (C := "com/example/bourse/bourse/sim/InsertionOrder") (a0 := a0) (Or.inl (w33 hw)) (Or.inl (w27 hw)) (by decide) (t := .int) (t' := (.object "com/example/bourse/bourse/sim/InsertionOrder$Link")) (by decide) (by decide)
theorem d28 : decode b3_ 45 = .ok (.iconst 1, 1) := by decide +kernel
theorem d29 : decode b3_ 46 = .ok (.iadd, 1) := by decide +kernel
theorem d30 : decode b3_ 47 = .ok (.putfield 25, 3) := by decide +kernel
theorem d31 : decode b3_ 50 = .ok (.return_, 1) := by decide +kernel
theorem sn_3 {Z : State} {a0 : Array Value} (hw : HW Z a0) : Jvm.RoadKit.slotOf Z "com/example/bourse/bourse/sim/InsertionOrder" "first" "Lcom/example/bourse/bourse/sim/InsertionOrder$Link;" ≠ Jvm.RoadKit.slotOf Z "com/example/bourse/bourse/sim/InsertionOrder" "last" "Lcom/example/bourse/bourse/sim/InsertionOrder$Link;" := slot_ne (C := "com/example/bourse/bourse/sim/InsertionOrder") (a0 := a0) (Or.inl (w31 hw)) (Or.inl (w27 hw)) (by decide) (t := (.object "com/example/bourse/bourse/sim/InsertionOrder$Link")) (t' := (.object "com/example/bourse/bourse/sim/InsertionOrder$Link")) (by decide) (by decide)
theorem sn_4 {Z : State} {a0 : Array Value} (hw : HW Z a0) : Jvm.RoadKit.slotOf Z "com/example/bourse/bourse/sim/InsertionOrder" "first" "Lcom/example/bourse/bourse/sim/InsertionOrder$Link;" ≠ Jvm.RoadKit.slotOf Z "com/example/bourse/bourse/sim/InsertionOrder" "size" "I" := slot_ne (C := "com/example/bourse/bourse/sim/InsertionOrder") (a0 := a0) (Or.inl (w31 hw)) (Or.inl (w33 hw)) (by decide) (t := (.object "com/example/bourse/bourse/sim/InsertionOrder$Link")) (t' := .int) (by decide) (by decide)
theorem sn_5 {Z : State} {a0 : Array Value} (hw : HW Z a0) : Jvm.RoadKit.slotOf Z "com/example/bourse/bourse/sim/InsertionOrder" "last" "Lcom/example/bourse/bourse/sim/InsertionOrder$Link;" ≠ Jvm.RoadKit.slotOf Z "com/example/bourse/bourse/sim/InsertionOrder" "size" "I" := slot_ne (C := "com/example/bourse/bourse/sim/InsertionOrder") (a0 := a0) (Or.inl (w27 hw)) (Or.inl (w33 hw)) (by decide) (t := (.object "com/example/bourse/bourse/sim/InsertionOrder$Link")) (t' := .int) (by decide) (by decide)
abbrev y3_add : MethodName := ⟨"com/example/bourse/bourse/sim/InsertionOrder", "add", "(Lcom/example/bourse/bourse/sim/InsertionOrder$Link;)V"⟩
def WS_r_add0 (Z : State) (o0 o1 : Addr) : List (Addr × Nat) := [(o1, (sl1 Z)), (o0, (sl2 Z)), (o0, (sl0 Z)), (o0, (sl3 Z))]
def Q_r_add0 (Z : State) (o0 o1 : Addr) (u_o1_before u_o0_first : Value) (p_o0_size : Int32) (h0 : Heap) (n0 : Nat) (v : Option Value) (h : Heap) (L : List Loc) : Prop := v = none ∧ Fr n0 L ∧ KL h0 h (WS_r_add0 Z o0 o1) ∧ Fd1 Z h o1 .null ∧ Fd2 Z h o0 (.ref o1) ∧ Fd0 Z h o0 (.ref o1) ∧ Fd3 Z h o0 (.int (p_o0_size + (1 : Int32)))
theorem ef_r_add0 (o0 o1 : Addr) (m : MethodId) : entryFrame m #[(.ref o0), (.ref o1)] 4 = mkF m 0 #[.val (.ref o0), .val (.ref o1), .unset, .unset] [] := by first | (simp [entryFrame, mkF, argsToLocals, Value.category]; done) | rfl
set_option maxRecDepth 65536 in
set_option maxHeartbeats 40000000 in
theorem r_add0 (l : Launch) (Z : State) (a0 : Array Value) (hw : HW Z a0) (ws : List Jvm.Cond) (o0 o1 : Addr) (u_o1_before u_o0_first : Value) (p_o0_size : Int32) (h0 : Heap) (n0 : Nat) (Z0 : n0 ≤ h0.size) (F_o0_last : Fd0 Z h0 o0 .null) (F_o1_before : Fd1 Z h0 o1 u_o1_before) (E_o1 : Ex0 Z h0 o1) (g_o1 : n0 ≤ o1) (ne_o0_o1 : o0 ≠ o1) (F_o0_first : Fd2 Z h0 o0 u_o0_first) (E_o0 : Ex1 Z h0 o0) (g_o0 : n0 ≤ o0) (F_o0_size : Fd3 Z h0 o0 (.int p_o0_size)) :
    MF l Z y3_add b3_ 4 none ws ⟨0, 0, 0, 0⟩ #[(.ref o0), (.ref o1)] h0 (Q_r_add0 Z o0 o1 u_o1_before u_o0_first p_o0_size h0 n0) := by
  refine own_body (plainFor_of_name pn_InsertionOrder418) (ef_r_add0 o0 o1) (by decide) (by decide) ?_
  intro p e s m below meth c s₁ hx hby hml hown hnm hret hZ hh e0 X0
  have N0 := Fr.nil n0
  obtain ⟨T1, X1, e1, st1⟩ := getF X0 hx hZ hown (host := "") (Or.inl (w26 hw)) Via.refl e0 F_o0_last (g := (mkF m 4 #[vr o0, vr o1, vr o1, .unset] [(.ref o0), (.ref o1)])) rfl rfl (hb hby d13)
  obtain ⟨T2, h2, X2, e2, W2, st2⟩ := own_putFR X1 hx hZ hown (w28 hw) e1 F_o1_before E_o1 (w29 hw) (w1 hw) (ty := (.object "java/lang/Object")) (by decide) rfl rfl (g := (mkF m 7 #[vr o0, vr o1, vr o1, .unset] [.null, (.ref o1)])) rfl rfl (hb hby d14)
  have K2 := KL.ofW W2
  have Fw2 : Fd1 Z h2 o1 .null := Fld.same W2 F_o1_before
  have N2 := Fr.snoc X2 N0 g_o1
  have f3 := (kFld K2 F_o0_last (nwS (Or.inl ne_o0_o1) nw0))
  obtain ⟨T4, X4, e4, st4⟩ := getF X2 hx hZ hown (host := "") (Or.inl (w26 hw)) Via.refl e2 f3 (g := (mkF m 11 #[vr o0, vr o1, vr o1, .unset] [(.ref o0)])) rfl rfl (hb hby d16)
  have f5 := (kFld K2 F_o0_first (nwS (Or.inl ne_o0_o1) nw0))
  have f6 := (kExa K2 E_o0)
  obtain ⟨T7, h7, X7, e7, W7, st7⟩ := putF X4 hx hZ hown (host := "") (Or.inl (w30 hw)) Via.refl e4 f5 f6 (Or.inl (w31 hw)) (w15 hw) (ty := (.object "com/example/bourse/bourse/sim/InsertionOrder$Link")) (by decide) rfl rfl (g := (mkF m 19 #[vr o0, vr o1, vr o1, .unset] [(.ref o1), (.ref o0)])) rfl rfl (hb hby d20)
  have K7 := KL.ofW W7
  have Fw7 : Fd2 Z h7 o0 (.ref o1) := Fld.same W7 f5
  have N7 := Fr.snoc X7 N2 g_o0
  have f8 := (kFld K7 f3 (nwS (Or.inr (sn_0 hw)) nw0))
  have f9 := (kExa K7 f6)
  obtain ⟨T10, h10, X10, e10, W10, st10⟩ := putF X7 hx hZ hown (host := "") (Or.inl (w26 hw)) Via.refl e7 f8 f9 (Or.inl (w27 hw)) (w15 hw) (ty := (.object "com/example/bourse/bourse/sim/InsertionOrder$Link")) (by decide) rfl rfl (g := (mkF m 37 #[vr o0, vr o1, vr o1, .unset] [(.ref o1), (.ref o0)])) rfl rfl (hb hby d24)
  have K10 := KL.ofW W10
  have Fw10 : Fd0 Z h10 o0 (.ref o1) := Fld.same W10 f8
  have N10 := Fr.snoc X10 N7 g_o0
  have f11 := (kFld K10 (kFld K7 (kFld K2 F_o0_size (nwS (Or.inl (ne_exa E_o0 E_o1 (by decide))) nw0)) (nwS (Or.inr (sn_1 hw)) nw0)) (nwS (Or.inr (sn_2 hw)) nw0))
  obtain ⟨T12, X12, e12, st12⟩ := getF X10 hx hZ hown (host := "") (Or.inl (w32 hw)) Via.refl e10 f11 (g := (mkF m 42 #[vr o0, vr o1, vr o1, .unset] [(.ref o0), (.ref o0)])) rfl rfl (hb hby d27)
  have f13 := (kExa K10 f9)
  obtain ⟨T14, h14, X14, e14, W14, st14⟩ := putF X12 hx hZ hown (host := "") (Or.inl (w32 hw)) Via.refl e12 f11 f13 (Or.inl (w33 hw)) (w15 hw) (ty := .int) (by decide) rfl rfl (g := (mkF m 47 #[vr o0, vr o1, vr o1, .unset] [(.int (p_o0_size + (1 : Int32))), (.ref o0)])) rfl rfl (hb hby d30)
  have K14 := KL.ofW W14
  have Fw14 : Fd3 Z h14 o0 (.int (p_o0_size + (1 : Int32))) := Fld.same W14 f11
  have N14 := Fr.snoc X14 N10 g_o0
  -- what was kept, from the start on
  have C0 := (KL.refl h0 (WS_r_add0 Z o0 o1)).trans K2 (naO (own_mi 0 rfl) na0)
  have C1 := C0.trans K7 (naO (own_mi 1 rfl) na0)
  have C2 := C1.trans K10 (naO (own_mi 2 rfl) na0)
  have C3 := C2.trans K14 (naO (own_mi 3 rfl) na0)
  have f15 := (kFld K14 (kFld K10 (kFld K7 Fw2 (nwS (Or.inl (Ne.symm (ne_exa E_o0 E_o1 (by decide)))) nw0)) (nwS (Or.inl (Ne.symm (ne_exa E_o0 E_o1 (by decide)))) nw0)) (nwS (Or.inl (Ne.symm (ne_exa E_o0 E_o1 (by decide)))) nw0))
  have f16 := (kFld K14 (kFld K10 Fw7 (nwS (Or.inr (sn_3 hw)) nw0)) (nwS (Or.inr (sn_4 hw)) nw0))
  have f17 := (kFld K14 Fw10 (nwS (Or.inr (sn_5 hw)) nw0))
  refine ⟨T14, _, none, X14, (fun h => by cases h <;> rfl), ?_, fun fs hr => ?_⟩
  · show Q_r_add0 Z o0 o1 u_o1_before u_o0_first p_o0_size h0 n0 _ T14.heap _
    rw [e14]
    exact ⟨rfl, N14, C3, f15, f16, f17, Fw14⟩
  · refine t_aloadN 1 X0.here hx (hb hby d9) rfl rfl rfl ?_
    refine t_astoreN (pc' := 2) (L' := #[vr o0, vr o1, vr o1, .unset]) X0.here hx (hb hby d10) rfl rfl rfl ?_
    refine t_aloadN 3 X0.here hx (hb hby d11) rfl rfl rfl ?_
    refine t_aloadN 4 X0.here hx (hb hby d12) rfl rfl rfl ?_
    refine st1 _ ?_
    refine st2 _ ?_
    refine t_aloadN 11 X2.here hx (hb hby d15) rfl rfl rfl ?_
    refine st4 _ ?_
    refine t_ifnonnullNo 17 X4.here hx (hb hby d17) rfl ?_
    refine t_aloadN 18 X4.here hx (hb hby d18) rfl rfl rfl ?_
    refine t_aloadN 19 X4.here hx (hb hby d19) rfl rfl rfl ?_
    refine st7 _ ?_
    refine t_goto (pc := 22) 35 X7.here hx (hb hby d21) (by decide) (by decide) ?_
    refine t_aloadN 36 X7.here hx (hb hby d22) rfl rfl rfl ?_
    refine t_aloadN 37 X7.here hx (hb hby d23) rfl rfl rfl ?_
    refine st10 _ ?_
    refine t_aloadN 41 X10.here hx (hb hby d25) rfl rfl rfl ?_
    refine t_dup 42 X10.here hx (hb hby d26) rfl rfl ?_
    refine st12 _ ?_
    refine t_iconst 46 (r := 1) X12.here hx (hb hby d28) (by decide) rfl ?_
    refine t_iadd 47 X12.here hx (hb hby d29) rfl rfl ?_
    refine st14 _ ?_
    exact X14.returnOut hx hret (hb hby d31) hr
theorem d32 : decode b3_ 25 = .ok (.aload_n 0, 1) := by decide +kernel
theorem d33 : decode b3_ 26 = .ok (.getfield 7, 3) := by decide +kernel
theorem d34 : decode b3_ 29 = .ok (.astore_n 3, 1) := by decide +kernel
theorem d35 : decode b3_ 30 = .ok (.aload_n 3, 1) := by decide +kernel
theorem d36 : decode b3_ 31 = .ok (.aload_n 1, 1) := by decide +kernel
theorem d37 : decode b3_ 32 = .ok (.putfield 22, 3) := by decide +kernel
def w44 (hw : HW Z a0) := ow 44 hw rfl
abbrev Fd4 (Z : State) (h : Heap) (a : Addr) (v : Value) : Prop := Fld Z h a "com/example/bourse/bourse/sim/InsertionOrder$Link" "after" "Ljava/lang/Object;" v
abbrev sl4 (Z : State) : Nat := Jvm.RoadKit.slotOf Z "com/example/bourse/bourse/sim/InsertionOrder$Link" "after" "Ljava/lang/Object;"
def w45 (hw : HW Z a0) := ow 45 hw rfl
def WS_r_add1 (Z : State) (o0 o1 r : Addr) : List (Addr × Nat) := [(o1, (sl1 Z)), (r, (sl4 Z)), (o0, (sl0 Z)), (o0, (sl3 Z))]
def Q_r_add1 (Z : State) (o0 o1 r : Addr) (u_o1_before u_r_after : Value) (p_o0_size : Int32) (h0 : Heap) (n0 : Nat) (v : Option Value) (h : Heap) (L : List Loc) : Prop := v = none ∧ Fr n0 L ∧ KL h0 h (WS_r_add1 Z o0 o1 r) ∧ Fd1 Z h o1 (.ref r) ∧ Fd4 Z h r (.ref o1) ∧ Fd0 Z h o0 (.ref o1) ∧ Fd3 Z h o0 (.int (p_o0_size + (1 : Int32)))
theorem ef_r_add1 (o0 o1 : Addr) (m : MethodId) : entryFrame m #[(.ref o0), (.ref o1)] 4 = mkF m 0 #[.val (.ref o0), .val (.ref o1), .unset, .unset] [] := by first | (simp [entryFrame, mkF, argsToLocals, Value.category]; done) | rfl
set_option maxRecDepth 65536 in
set_option maxHeartbeats 40000000 in
theorem r_add1 (l : Launch) (Z : State) (a0 : Array Value) (hw : HW Z a0) (ws : List Jvm.Cond) (o0 o1 r : Addr) (u_o1_before u_r_after : Value) (p_o0_size : Int32) (h0 : Heap) (n0 : Nat) (Z0 : n0 ≤ h0.size) (F_o0_last : Fd0 Z h0 o0 (.ref r)) (F_o1_before : Fd1 Z h0 o1 u_o1_before) (E_o1 : Ex0 Z h0 o1) (g_o1 : n0 ≤ o1) (ne_o0_o1 : o0 ≠ o1) (F_r_after : Fd4 Z h0 r u_r_after) (ne_o1_r : o1 ≠ r) (E_r : Ex0 Z h0 r) (g_r : n0 ≤ r) (ne_o0_r : o0 ≠ r) (E_o0 : Ex1 Z h0 o0) (g_o0 : n0 ≤ o0) (F_o0_size : Fd3 Z h0 o0 (.int p_o0_size)) :
    MF l Z y3_add b3_ 4 none ws ⟨0, 0, 0, 0⟩ #[(.ref o0), (.ref o1)] h0 (Q_r_add1 Z o0 o1 r u_o1_before u_r_after p_o0_size h0 n0) := by
  refine own_body (plainFor_of_name pn_InsertionOrder418) (ef_r_add1 o0 o1) (by decide) (by decide) ?_
  intro p e s m below meth c s₁ hx hby hml hown hnm hret hZ hh e0 X0
  have N0 := Fr.nil n0
  obtain ⟨T1, X1, e1, st1⟩ := getF X0 hx hZ hown (host := "") (Or.inl (w26 hw)) Via.refl e0 F_o0_last (g := (mkF m 4 #[vr o0, vr o1, vr o1, .unset] [(.ref o0), (.ref o1)])) rfl rfl (hb hby d13)
  obtain ⟨T2, h2, X2, e2, W2, st2⟩ := own_putFR X1 hx hZ hown (w28 hw) e1 F_o1_before E_o1 (w29 hw) (w1 hw) (ty := (.object "java/lang/Object")) (by decide) rfl rfl (g := (mkF m 7 #[vr o0, vr o1, vr o1, .unset] [(.ref r), (.ref o1)])) rfl rfl (hb hby d14)
  have K2 := KL.ofW W2
  have Fw2 : Fd1 Z h2 o1 (.ref r) := Fld.same W2 F_o1_before
  have N2 := Fr.snoc X2 N0 g_o1
  have f3 := (kFld K2 F_o0_last (nwS (Or.inl ne_o0_o1) nw0))
  obtain ⟨T4, X4, e4, st4⟩ := getF X2 hx hZ hown (host := "") (Or.inl (w26 hw)) Via.refl e2 f3 (g := (mkF m 11 #[vr o0, vr o1, vr o1, .unset] [(.ref o0)])) rfl rfl (hb hby d16)
  obtain ⟨T5, X5, e5, st5⟩ := getF X4 hx hZ hown (host := "") (Or.inl (w26 hw)) Via.refl e4 f3 (g := (mkF m 26 #[vr o0, vr o1, vr o1, .unset] [(.ref o0)])) rfl rfl (hb hby d33)
  have f6 := (kFld K2 F_r_after (nwS (Or.inl (Ne.symm ne_o1_r)) nw0))
  have f7 := (kExa K2 E_r)
  obtain ⟨T8, h8, X8, e8, W8, st8⟩ := own_putFR X5 hx hZ hown (w44 hw) e5 f6 f7 (w45 hw) (w1 hw) (ty := (.object "java/lang/Object")) (by decide) rfl rfl (g := (mkF m 32 #[vr o0, vr o1, vr o1, vr r] [(.ref o1), (.ref r)])) rfl rfl (hb hby d37)
  have K8 := KL.ofW W8
  have Fw8 : Fd4 Z h8 r (.ref o1) := Fld.same W8 f6
  have N8 := Fr.snoc X8 N2 g_r
  have f9 := (kFld K8 f3 (nwS (Or.inl ne_o0_r) nw0))
  have f10 := (kExa K8 (kExa K2 E_o0))
  obtain ⟨T11, h11, X11, e11, W11, st11⟩ := putF X8 hx hZ hown (host := "") (Or.inl (w26 hw)) Via.refl e8 f9 f10 (Or.inl (w27 hw)) (w15 hw) (ty := (.object "com/example/bourse/bourse/sim/InsertionOrder$Link")) (by decide) rfl rfl (g := (mkF m 37 #[vr o0, vr o1, vr o1, vr r] [(.ref o1), (.ref o0)])) rfl rfl (hb hby d24)
  have K11 := KL.ofW W11
  have Fw11 : Fd0 Z h11 o0 (.ref o1) := Fld.same W11 f9
  have N11 := Fr.snoc X11 N8 g_o0
  have f12 := (kFld K11 (kFld K8 (kFld K2 F_o0_size (nwS (Or.inl (ne_exa E_o0 E_o1 (by decide))) nw0)) (nwS (Or.inl (ne_exa E_o0 E_r (by decide))) nw0)) (nwS (Or.inr (sn_2 hw)) nw0))
  obtain ⟨T13, X13, e13, st13⟩ := getF X11 hx hZ hown (host := "") (Or.inl (w32 hw)) Via.refl e11 f12 (g := (mkF m 42 #[vr o0, vr o1, vr o1, vr r] [(.ref o0), (.ref o0)])) rfl rfl (hb hby d27)
  have f14 := (kExa K11 f10)
  obtain ⟨T15, h15, X15, e15, W15, st15⟩ := putF X13 hx hZ hown (host := "") (Or.inl (w32 hw)) Via.refl e13 f12 f14 (Or.inl (w33 hw)) (w15 hw) (ty := .int) (by decide) rfl rfl (g := (mkF m 47 #[vr o0, vr o1, vr o1, vr r] [(.int (p_o0_size + (1 : Int32))), (.ref o0)])) rfl rfl (hb hby d30)
  have K15 := KL.ofW W15
  have Fw15 : Fd3 Z h15 o0 (.int (p_o0_size + (1 : Int32))) := Fld.same W15 f12
  have N15 := Fr.snoc X15 N11 g_o0
  -- what was kept, from the start on
  have C0 := (KL.refl h0 (WS_r_add1 Z o0 o1 r)).trans K2 (naO (own_mi 0 rfl) na0)
  have C1 := C0.trans K8 (naO (own_mi 1 rfl) na0)
  have C2 := C1.trans K11 (naO (own_mi 2 rfl) na0)
  have C3 := C2.trans K15 (naO (own_mi 3 rfl) na0)
  have f16 := (kFld K15 (kFld K11 (kFld K8 Fw2 (nwS (Or.inl ne_o1_r) nw0)) (nwS (Or.inl (Ne.symm (ne_exa E_o0 E_o1 (by decide)))) nw0)) (nwS (Or.inl (Ne.symm (ne_exa E_o0 E_o1 (by decide)))) nw0))
  have f17 := (kFld K15 (kFld K11 Fw8 (nwS (Or.inl (Ne.symm (ne_exa E_o0 E_r (by decide)))) nw0)) (nwS (Or.inl (Ne.symm (ne_exa E_o0 E_r (by decide)))) nw0))
  have f18 := (kFld K15 Fw11 (nwS (Or.inr (sn_5 hw)) nw0))
  refine ⟨T15, _, none, X15, (fun h => by cases h <;> rfl), ?_, fun fs hr => ?_⟩
  · show Q_r_add1 Z o0 o1 r u_o1_before u_r_after p_o0_size h0 n0 _ T15.heap _
    rw [e15]
    exact ⟨rfl, N15, C3, f16, f17, f18, Fw15⟩
  · refine t_aloadN 1 X0.here hx (hb hby d9) rfl rfl rfl ?_
    refine t_astoreN (pc' := 2) (L' := #[vr o0, vr o1, vr o1, .unset]) X0.here hx (hb hby d10) rfl rfl rfl ?_
    refine t_aloadN 3 X0.here hx (hb hby d11) rfl rfl rfl ?_
    refine t_aloadN 4 X0.here hx (hb hby d12) rfl rfl rfl ?_
    refine st1 _ ?_
    refine st2 _ ?_
    refine t_aloadN 11 X2.here hx (hb hby d15) rfl rfl rfl ?_
    refine st4 _ ?_
    refine t_ifnonnullYes (pc := 14) 25 X4.here hx (hb hby d17) (by decide) (by decide) ?_
    refine t_aloadN 26 X4.here hx (hb hby d32) rfl rfl rfl ?_
    refine st5 _ ?_
    refine t_astoreN (pc' := 30) (L' := #[vr o0, vr o1, vr o1, vr r]) X5.here hx (hb hby d34) rfl rfl rfl ?_
    refine t_aloadN 31 X5.here hx (hb hby d35) rfl rfl rfl ?_
    refine t_aloadN 32 X5.here hx (hb hby d36) rfl rfl rfl ?_
    refine st8 _ ?_
    refine t_aloadN 36 X8.here hx (hb hby d22) rfl rfl rfl ?_
    refine t_aloadN 37 X8.here hx (hb hby d23) rfl rfl rfl ?_
    refine st11 _ ?_
    refine t_aloadN 41 X11.here hx (hb hby d25) rfl rfl rfl ?_
    refine t_dup 42 X11.here hx (hb hby d26) rfl rfl ?_
    refine st13 _ ?_
    refine t_iconst 46 (r := 1) X13.here hx (hb hby d28) (by decide) rfl ?_
    refine t_iadd 47 X13.here hx (hb hby d29) rfl rfl ?_
    refine st15 _ ?_
    exact X15.returnOut hx hret (hb hby d31) hr
abbrev b4_ := prog_158_method_4_code
theorem d38 : decode b4_ 0 = .ok (.aload_n 0, 1) := by decide +kernel
theorem d39 : decode b4_ 1 = .ok (.getfield 25, 3) := by decide +kernel
theorem d40 : decode b4_ 4 = .ok (.ireturn, 1) := by decide +kernel
abbrev y4_size : MethodName := ⟨"com/example/bourse/bourse/sim/InsertionOrder", "size", "()I"⟩
def Q_r_size (Z : State) (o0 : Addr) (p_o0_size : Int32) (h0 : Heap) (n0 : Nat) (v : Option Value) (h : Heap) (L : List Loc) : Prop := v = some (.int p_o0_size) ∧ Fr n0 L ∧ h = h0
theorem ef_r_size (o0 : Addr) (m : MethodId) : entryFrame m #[(.ref o0)] 1 = mkF m 0 #[.val (.ref o0)] [] := by first | (simp [entryFrame, mkF, argsToLocals, Value.category]; done) | rfl
set_option maxRecDepth 65536 in
set_option maxHeartbeats 40000000 in
theorem r_size (l : Launch) (Z : State) (a0 : Array Value) (hw : HW Z a0) (ws : List Jvm.Cond) (o0 : Addr) (p_o0_size : Int32) (h0 : Heap) (n0 : Nat) (Z0 : n0 ≤ h0.size) (F_o0_size : Fd3 Z h0 o0 (.int p_o0_size)) :
    MF l Z y4_size b4_ 1 (some .int) ws ⟨0, 0, 0, 0⟩ #[(.ref o0)] h0 (Q_r_size Z o0 p_o0_size h0 n0) := by
  refine own_body (plainFor_of_name pn_InsertionOrder418) (ef_r_size o0) (by decide) (by decide) ?_
  intro p e s m below meth c s₁ hx hby hml hown hnm hret hZ hh e0 X0
  have N0 := Fr.nil n0
  obtain ⟨T1, X1, e1, st1⟩ := getF X0 hx hZ hown (host := "") (Or.inl (w32 hw)) Via.refl e0 F_o0_size (g := (mkF m 1 #[vr o0] [(.ref o0)])) rfl rfl (hb hby d39)
  refine ⟨T1, _, some (.int p_o0_size), X1, (fun h => by cases h <;> rfl), ?_, fun fs hr => ?_⟩
  · show Q_r_size Z o0 p_o0_size h0 n0 _ T1.heap _
    rw [e1]
    exact ⟨rfl, N0, rfl⟩
  · refine t_aloadN 1 X0.here hx (hb hby d38) rfl rfl rfl ?_
    refine st1 _ ?_
    exact retI X1 hx hret (hb hby d40) hr
abbrev b5_ := prog_158_method_5_code
theorem d41 : decode b5_ 0 = .ok (.aload_n 1, 1) := by decide +kernel
theorem d42 : decode b5_ 1 = .ok (.astore_n 2, 1) := by decide +kernel
theorem d43 : decode b5_ 2 = .ok (.aload_n 2, 1) := by decide +kernel
theorem d44 : decode b5_ 3 = .ok (.getfield 22, 3) := by decide +kernel
theorem d45 : decode b5_ 6 = .ok (.checkcast 14, 3) := by decide +kernel
theorem d46 : decode b5_ 9 = .ok (.areturn, 1) := by decide +kernel
abbrev y5_after : MethodName := ⟨"com/example/bourse/bourse/sim/InsertionOrder", "after", "(Lcom/example/bourse/bourse/sim/InsertionOrder$Link;)Lcom/example/bourse/bourse/sim/InsertionOrder$Link;"⟩
def Q_r_after0 (Z : State) (o0 o1 : Addr) (h0 : Heap) (n0 : Nat) (v : Option Value) (h : Heap) (L : List Loc) : Prop := v = some .null ∧ Fr n0 L ∧ h = h0
theorem ef_r_after0 (o0 o1 : Addr) (m : MethodId) : entryFrame m #[(.ref o0), (.ref o1)] 3 = mkF m 0 #[.val (.ref o0), .val (.ref o1), .unset] [] := by first | (simp [entryFrame, mkF, argsToLocals, Value.category]; done) | rfl
set_option maxRecDepth 65536 in
set_option maxHeartbeats 40000000 in
theorem r_after0 (l : Launch) (Z : State) (a0 : Array Value) (hw : HW Z a0) (ws : List Jvm.Cond) (o0 o1 : Addr) (h0 : Heap) (n0 : Nat) (Z0 : n0 ≤ h0.size) (F_o1_after : Fd4 Z h0 o1 .null) :
    MF l Z y5_after b5_ 3 (some (.object "com/example/bourse/bourse/sim/InsertionOrder$Link")) ws ⟨0, 0, 0, 0⟩ #[(.ref o0), (.ref o1)] h0 (Q_r_after0 Z o0 o1 h0 n0) := by
  refine own_body (plainFor_of_name pn_InsertionOrder418) (ef_r_after0 o0 o1) (by decide) (by decide) ?_
  intro p e s m below meth c s₁ hx hby hml hown hnm hret hZ hh e0 X0
  have N0 := Fr.nil n0
  obtain ⟨T1, X1, e1, st1⟩ := own_getFR X0 hx hZ hown (w44 hw) e0 F_o1_after (g := (mkF m 3 #[vr o0, vr o1, vr o1] [(.ref o1)])) rfl rfl (hb hby d44)
  refine ⟨T1, _, some .null, X1, (fun h => by cases h <;> rfl), ?_, fun fs hr => ?_⟩
  · show Q_r_after0 Z o0 o1 h0 n0 _ T1.heap _
    rw [e1]
    exact ⟨rfl, N0, rfl⟩
  · refine t_aloadN 1 X0.here hx (hb hby d41) rfl rfl rfl ?_
    refine t_astoreN (pc' := 2) (L' := #[vr o0, vr o1, vr o1]) X0.here hx (hb hby d42) rfl rfl rfl ?_
    refine t_aloadN 3 X0.here hx (hb hby d43) rfl rfl rfl ?_
    refine st1 _ ?_
    refine X1.checkcastNull hx (g := (mkF m 6 #[vr o0, vr o1, vr o1] [.null])) rfl rfl (hb hby d45) _ ?_
    jvm_step X1.here [X1.here.top, hx, (hb hby d46), X1.method', hret, Value.isRef, FieldType.isReference]
    first | (intro acts; rw [hr _ acts rfl rfl rfl]) | rw [hr _ _ rfl rfl rfl]
    exact Steps.refl _
def w94 (hw : HW Z a0) := ow 94 hw rfl
def w93 (hw : HW Z a0) := ow 93 hw rfl
def Q_r_after1 (Z : State) (o0 o1 r : Addr) (h0 : Heap) (n0 : Nat) (v : Option Value) (h : Heap) (L : List Loc) : Prop := v = some (.ref r) ∧ Fr n0 L ∧ h = h0
theorem ef_r_after1 (o0 o1 : Addr) (m : MethodId) : entryFrame m #[(.ref o0), (.ref o1)] 3 = mkF m 0 #[.val (.ref o0), .val (.ref o1), .unset] [] := by first | (simp [entryFrame, mkF, argsToLocals, Value.category]; done) | rfl
set_option maxRecDepth 65536 in
set_option maxHeartbeats 40000000 in
theorem r_after1 (l : Launch) (Z : State) (a0 : Array Value) (hw : HW Z a0) (ws : List Jvm.Cond) (o0 o1 r : Addr) (h0 : Heap) (n0 : Nat) (Z0 : n0 ≤ h0.size) (F_o1_after : Fd4 Z h0 o1 (.ref r)) (E_r : Ex0 Z h0 r) :
    MF l Z y5_after b5_ 3 (some (.object "com/example/bourse/bourse/sim/InsertionOrder$Link")) ws ⟨0, 0, 0, 0⟩ #[(.ref o0), (.ref o1)] h0 (Q_r_after1 Z o0 o1 r h0 n0) := by
  refine own_body (plainFor_of_name pn_InsertionOrder418) (ef_r_after1 o0 o1) (by decide) (by decide) ?_
  intro p e s m below meth c s₁ hx hby hml hown hnm hret hZ hh e0 X0
  have N0 := Fr.nil n0
  obtain ⟨T1, X1, e1, st1⟩ := own_getFR X0 hx hZ hown (w44 hw) e0 F_o1_after (g := (mkF m 3 #[vr o0, vr o1, vr o1] [(.ref o1)])) rfl rfl (hb hby d44)
  obtain ⟨T2, X2, e2, st2⟩ := castY X1 hx hZ hown (w93 hw) e1 (Ins.of_exa E_r (w94 hw)) (g := (mkF m 6 #[vr o0, vr o1, vr o1] [(.ref r)])) rfl rfl (hb hby d45)
  refine ⟨T2, _, some (.ref r), X2, (fun h => by cases h <;> rfl), ?_, fun fs hr => ?_⟩
  · show Q_r_after1 Z o0 o1 r h0 n0 _ T2.heap _
    rw [e2]
    exact ⟨rfl, N0, rfl⟩
  · refine t_aloadN 1 X0.here hx (hb hby d41) rfl rfl rfl ?_
    refine t_astoreN (pc' := 2) (L' := #[vr o0, vr o1, vr o1]) X0.here hx (hb hby d42) rfl rfl rfl ?_
    refine t_aloadN 3 X0.here hx (hb hby d43) rfl rfl rfl ?_
    refine st1 _ ?_
    refine st2 _ ?_
    jvm_step X2.here [X2.here.top, hx, (hb hby d46), X2.method', hret, Value.isRef, FieldType.isReference]
    first | (intro acts; rw [hr _ acts rfl rfl rfl]) | rw [hr _ _ rfl rfl rfl]
    exact Steps.refl _
abbrev b6_ := prog_159_method_1_code
theorem d47 : decode b6_ 0 = .ok (.aload_n 0, 1) := by decide +kernel
theorem d48 : decode b6_ 1 = .ok (.aload_n 1, 1) := by decide +kernel
theorem d49 : decode b6_ 2 = .ok (.putfield 1, 3) := by decide +kernel
def w57 (hw : HW Z a0) := ow 57 hw rfl
abbrev Fd5 (Z : State) (h : Heap) (a : Addr) (v : Value) : Prop := Fld Z h a "com/example/bourse/bourse/sim/InsertionOrder$1" "this$0" "Lcom/example/bourse/bourse/sim/InsertionOrder;" v
abbrev sl5 (Z : State) : Nat := Jvm.RoadKit.slotOf Z "com/example/bourse/bourse/sim/InsertionOrder$1" "this$0" "Lcom/example/bourse/bourse/sim/InsertionOrder;"
abbrev Ex2 (Z : State) (h : Heap) (a : Addr) : Prop := Exa Z h a "com/example/bourse/bourse/sim/InsertionOrder$1"
def w58 (hw : HW Z a0) := ow 58 hw rfl
def w52 (hw : HW Z a0) := ow 52 hw rfl
theorem d50 : decode b6_ 5 = .ok (.aload_n 0, 1) := by decide +kernel
theorem d51 : decode b6_ 6 = .ok (.invokespecial 7, 3) := by decide +kernel
def w59 (hw : HW Z a0) := ow 59 hw rfl
theorem d52 : decode b6_ 9 = .ok (.aload_n 0, 1) := by decide +kernel
theorem d53 : decode b6_ 10 = .ok (.aload_n 0, 1) := by decide +kernel
theorem d54 : decode b6_ 11 = .ok (.getfield 1, 3) := by decide +kernel
theorem d55 : decode b6_ 14 = .ok (.getfield 13, 3) := by decide +kernel
def w60 (hw : HW Z a0) := ow 60 hw rfl
theorem d56 : decode b6_ 17 = .ok (.putfield 19, 3) := by decide +kernel
def w61 (hw : HW Z a0) := ow 61 hw rfl
abbrev Fd6 (Z : State) (h : Heap) (a : Addr) (v : Value) : Prop := Fld Z h a "com/example/bourse/bourse/sim/InsertionOrder$1" "next" "Lcom/example/bourse/bourse/sim/InsertionOrder$Link;" v
abbrev sl6 (Z : State) : Nat := Jvm.RoadKit.slotOf Z "com/example/bourse/bourse/sim/InsertionOrder$1" "next" "Lcom/example/bourse/bourse/sim/InsertionOrder$Link;"
def w62 (hw : HW Z a0) := ow 62 hw rfl
theorem sn_6 {Z : State} {a0 : Array Value} (hw : HW Z a0) : Jvm.RoadKit.slotOf Z "com/example/bourse/bourse/sim/InsertionOrder$1" "next" "Lcom/example/bourse/bourse/sim/InsertionOrder$Link;" ≠ Jvm.RoadKit.slotOf Z "com/example/bourse/bourse/sim/InsertionOrder$1" "this$0" "Lcom/example/bourse/bourse/sim/InsertionOrder;" := slot_ne (C := "com/example/bourse/bourse/sim/InsertionOrder$1") (a0 := a0) (Or.inl (w62 hw)) (Or.inr (w58 hw)) (by decide) (t := (.object "com/example/bourse/bourse/sim/InsertionOrder$Link")) (t' := (.object "com/example/bourse/bourse/sim/InsertionOrder")) (by decide) (by decide)
theorem d57 : decode b6_ 20 = .ok (.return_, 1) := by decide +kernel
theorem sn_7 {Z : State} {a0 : Array Value} (hw : HW Z a0) : Jvm.RoadKit.slotOf Z "com/example/bourse/bourse/sim/InsertionOrder$1" "this$0" "Lcom/example/bourse/bourse/sim/InsertionOrder;" ≠ Jvm.RoadKit.slotOf Z "com/example/bourse/bourse/sim/InsertionOrder$1" "next" "Lcom/example/bourse/bourse/sim/InsertionOrder$Link;" := slot_ne (C := "com/example/bourse/bourse/sim/InsertionOrder$1") (a0 := a0) (Or.inr (w58 hw)) (Or.inl (w62 hw)) (by decide) (t := (.object "com/example/bourse/bourse/sim/InsertionOrder")) (t' := (.object "com/example/bourse/bourse/sim/InsertionOrder$Link")) (by decide) (by decide)
theorem pn_InsertionOrder_1503 : plainName "com/example/bourse/bourse/sim/InsertionOrder$1" = true := by first | (simp [plainName, overriddenIn]; done) | decide +kernel
abbrev y6__init_ : MethodName := ⟨"com/example/bourse/bourse/sim/InsertionOrder$1", "<init>", "(Lcom/example/bourse/bourse/sim/InsertionOrder;)V"⟩
def WS_r_itinit0 (Z : State) (o0 : Addr) : List (Addr × Nat) := [(o0, (sl5 Z)), (o0, (sl6 Z))]
def Q_r_itinit0 (Z : State) (o0 o1 : Addr) (u_o0_this_0 u_o0_next : Value) (h0 : Heap) (n0 : Nat) (v : Option Value) (h : Heap) (L : List Loc) : Prop := v = none ∧ Fr n0 L ∧ KL h0 h (WS_r_itinit0 Z o0) ∧ Fd5 Z h o0 (.ref o1) ∧ Fd6 Z h o0 .null
theorem ef_r_itinit0 (o0 o1 : Addr) (m : MethodId) : entryFrame m #[(.ref o0), (.ref o1)] 2 = mkF m 0 #[.val (.ref o0), .val (.ref o1)] [] := by first | (simp [entryFrame, mkF, argsToLocals, Value.category]; done) | rfl
set_option maxRecDepth 65536 in
set_option maxHeartbeats 40000000 in
theorem r_itinit0 (l : Launch) (Z : State) (a0 : Array Value) (hw : HW Z a0) (ws : List Jvm.Cond) (o0 o1 : Addr) (u_o0_this_0 u_o0_next : Value) (h0 : Heap) (n0 : Nat) (Z0 : n0 ≤ h0.size) (F_o0_this_0 : Fd5 Z h0 o0 u_o0_this_0) (E_o0 : Ex2 Z h0 o0) (g_o0 : n0 ≤ o0) (F_o1_first : Fd2 Z h0 o1 .null) (ne_o0_o1 : o0 ≠ o1) (F_o0_next : Fd6 Z h0 o0 u_o0_next) :
    MF l Z y6__init_ b6_ 2 none ws ⟨1, 0, 0, 12⟩ #[(.ref o0), (.ref o1)] h0 (Q_r_itinit0 Z o0 o1 u_o0_this_0 u_o0_next h0 n0) := by
  refine own_body (plainFor_of_name pn_InsertionOrder_1503) (ef_r_itinit0 o0 o1) (by decide) (by decide) ?_
  intro p e s m below meth c s₁ hx hby hml hown hnm hret hZ hh e0 X0
  have N0 := Fr.nil n0
  obtain ⟨T1, h1, X1, e1, W1, st1⟩ := putF X0 hx hZ hown (host := "") (Or.inl (w57 hw)) Via.refl e0 F_o0_this_0 E_o0 (Or.inr ⟨(w58 hw), rfl, hnm⟩) (w52 hw) (ty := (.object "com/example/bourse/bourse/sim/InsertionOrder")) (by decide) rfl rfl (g := (mkF m 2 #[vr o0, vr o1] [(.ref o1), (.ref o0)])) rfl rfl (hb hby d49)
  have K1 := KL.ofW W1
  have Fw1 : Fd5 Z h1 o0 (.ref o1) := Fld.same W1 F_o0_this_0
  have N1 := Fr.snoc X1 N0 g_o0
  obtain ⟨T2, X2, e2, st2⟩ := initO X1 hx hZ hown (w59 hw) (w12 hw) (w13 hw) e1 (g := (mkF m 6 #[vr o0, vr o1] [(.ref o0)])) rfl (by rw [hml]; rfl) rfl (hb hby d51) (by decide) (W := 0) (by show 2 * 0 + _ ≤ _; exact Nat.le_of_eq rfl) (by decide)
  obtain ⟨T3, X3, e3, st3⟩ := getF X2 hx hZ hown (host := "") (Or.inl (w57 hw)) Via.refl e2 Fw1 (g := (mkF m 11 #[vr o0, vr o1] [(.ref o0), (.ref o0)])) rfl rfl (hb hby d54)
  have f4 := (kFld K1 F_o1_first (nwS (Or.inl (Ne.symm ne_o0_o1)) nw0))
  obtain ⟨T5, X5, e5, st5⟩ := getF X3 hx hZ hown (Or.inr (w60 hw)) Via.refl e3 f4 (g := (mkF m 14 #[vr o0, vr o1] [(.ref o1), (.ref o0)])) rfl rfl (hb hby d55)
  have f6 := (kFld K1 F_o0_next (nwS (Or.inr (sn_6 hw)) nw0))
  have f7 := (kExa K1 E_o0)
  obtain ⟨T8, h8, X8, e8, W8, st8⟩ := putF X5 hx hZ hown (host := "") (Or.inl (w61 hw)) Via.refl e5 f6 f7 (Or.inl (w62 hw)) (w52 hw) (ty := (.object "com/example/bourse/bourse/sim/InsertionOrder$Link")) (by decide) rfl rfl (g := (mkF m 17 #[vr o0, vr o1] [.null, (.ref o0)])) rfl rfl (hb hby d56)
  have K8 := KL.ofW W8
  have Fw8 : Fd6 Z h8 o0 .null := Fld.same W8 f6
  have N8 := Fr.snoc X8 N1 g_o0
  -- what was kept, from the start on
  have C0 := (KL.refl h0 (WS_r_itinit0 Z o0)).trans K1 (naO (own_mi 0 rfl) na0)
  have C1 := C0.trans K8 (naO (own_mi 1 rfl) na0)
  have f9 := (kFld K8 Fw1 (nwS (Or.inr (sn_7 hw)) nw0))
  refine ⟨T8, _, none, X8, (fun h => by cases h <;> rfl), ?_, fun fs hr => ?_⟩
  · show Q_r_itinit0 Z o0 o1 u_o0_this_0 u_o0_next h0 n0 _ T8.heap _
    rw [e8]
    exact ⟨rfl, N8, C1, f9, Fw8⟩
  · refine t_aloadN 1 X0.here hx (hb hby d47) rfl rfl rfl ?_
    refine t_aloadN 2 X0.here hx (hb hby d48) rfl rfl rfl ?_
    refine st1 _ ?_
    refine t_aloadN 6 X1.here hx (hb hby d50) rfl rfl rfl ?_
    refine st2 _ ?_
    refine t_aloadN 10 X2.here hx (hb hby d52) rfl rfl rfl ?_
    refine t_aloadN 11 X2.here hx (hb hby d53) rfl rfl rfl ?_
    refine st3 _ ?_
    refine st5 _ ?_
    refine st8 _ ?_
    exact X8.returnOut hx hret (hb hby d57) hr
abbrev b7_ := prog_158_method_6_code
theorem d58 : decode b7_ 0 = .ok (.new 29, 3) := by decide +kernel
def w51 (hw : HW Z a0) := ow 51 hw rfl
def w53 (hw : HW Z a0) := ow 53 hw rfl
def w78 (hw : HW Z a0) := ow 78 hw rfl
abbrev Fd7 (Z : State) (h : Heap) (a : Addr) (v : Value) : Prop := Fld Z h a "com/example/bourse/bourse/sim/InsertionOrder$1" "given" "Lcom/example/bourse/bourse/sim/InsertionOrder$Link;" v
abbrev sl7 (Z : State) : Nat := Jvm.RoadKit.slotOf Z "com/example/bourse/bourse/sim/InsertionOrder$1" "given" "Lcom/example/bourse/bourse/sim/InsertionOrder$Link;"
theorem d59 : decode b7_ 3 = .ok (.dup, 1) := by decide +kernel
theorem d60 : decode b7_ 4 = .ok (.aload_n 0, 1) := by decide +kernel
theorem d61 : decode b7_ 5 = .ok (.invokespecial 31, 3) := by decide +kernel
def w54 (hw : HW Z a0) := ow 54 hw rfl
def w56 (hw : HW Z a0) := ow 56 hw rfl
theorem pd_1 : parseMethodDescriptor "(Lcom/example/bourse/bourse/sim/InsertionOrder;)V" = some ⟨[(.object "com/example/bourse/bourse/sim/InsertionOrder")], none⟩ := by decide +kernel
def w55 (hw : HW Z a0) := ow 55 hw rfl
theorem d62 : decode b7_ 8 = .ok (.areturn, 1) := by decide +kernel
theorem sn_8 {Z : State} {a0 : Array Value} (hw : HW Z a0) : Jvm.RoadKit.slotOf Z "com/example/bourse/bourse/sim/InsertionOrder$1" "given" "Lcom/example/bourse/bourse/sim/InsertionOrder$Link;" ≠ Jvm.RoadKit.slotOf Z "com/example/bourse/bourse/sim/InsertionOrder$1" "next" "Lcom/example/bourse/bourse/sim/InsertionOrder$Link;" := slot_ne (C := "com/example/bourse/bourse/sim/InsertionOrder$1") (a0 := a0) (Or.inl (w78 hw)) (Or.inl (w62 hw)) (by decide) (t := (.object "com/example/bourse/bourse/sim/InsertionOrder$Link")) (t' := (.object "com/example/bourse/bourse/sim/InsertionOrder$Link")) (by decide) (by decide)
theorem sn_9 {Z : State} {a0 : Array Value} (hw : HW Z a0) : Jvm.RoadKit.slotOf Z "com/example/bourse/bourse/sim/InsertionOrder$1" "given" "Lcom/example/bourse/bourse/sim/InsertionOrder$Link;" ≠ Jvm.RoadKit.slotOf Z "com/example/bourse/bourse/sim/InsertionOrder$1" "this$0" "Lcom/example/bourse/bourse/sim/InsertionOrder;" := slot_ne (C := "com/example/bourse/bourse/sim/InsertionOrder$1") (a0 := a0) (Or.inl (w78 hw)) (Or.inr (w58 hw)) (by decide) (t := (.object "com/example/bourse/bourse/sim/InsertionOrder$Link")) (t' := (.object "com/example/bourse/bourse/sim/InsertionOrder")) (by decide) (by decide)
abbrev y7_iterator : MethodName := ⟨"com/example/bourse/bourse/sim/InsertionOrder", "iterator", "()Ljava/util/Iterator;"⟩
def Q_r_iter0 (Z : State) (o0 : Addr) (h0 : Heap) (n0 : Nat) (v : Option Value) (h : Heap) (L : List Loc) : Prop := ∃ b1 : Addr, v = some (.ref b1) ∧ Fr n0 L ∧ KL h0 h [] ∧ h0.size ≤ b1 ∧ Ex2 Z h b1 ∧ Fd5 Z h b1 (.ref o0) ∧ Fd6 Z h b1 .null ∧ Fd7 Z h b1 .null
theorem ef_r_iter0 (o0 : Addr) (m : MethodId) : entryFrame m #[(.ref o0)] 1 = mkF m 0 #[.val (.ref o0)] [] := by first | (simp [entryFrame, mkF, argsToLocals, Value.category]; done) | rfl
set_option maxRecDepth 65536 in
set_option maxHeartbeats 40000000 in
theorem r_iter0 (l : Launch) (Z : State) (a0 : Array Value) (hw : HW Z a0) (ws : List Jvm.Cond) (o0 : Addr) (h0 : Heap) (n0 : Nat) (Z0 : n0 ≤ h0.size) (F_o0_first : Fd2 Z h0 o0 .null) :
    MF l Z y7_iterator b7_ 1 (some (.object "java/util/Iterator")) ws ⟨2, 1, 3, 26⟩ #[(.ref o0)] h0 (Q_r_iter0 Z o0 h0 n0) := by
  refine own_body (plainFor_of_name pn_InsertionOrder418) (ef_r_iter0 o0) (by decide) (by decide) ?_
  intro p e s m below meth c s₁ hx hby hml hown hnm hret hZ hh e0 X0
  have N0 := Fr.nil n0
  obtain ⟨T1, h1, X1, e1, E1, A1, D1, -, st1⟩ := newO X0 hx hZ hown (w51 hw) (w52 hw) (w53 hw) e0 (g := (mkF m 0 #[vr o0] [])) rfl (hb hby d58) (by decide) (by decide)
  obtain ⟨b1, g1⟩ : ∃ z, z = h0.size := ⟨_, rfl⟩
  rw [← g1] at A1 D1 st1
  have ge_b1 : h0.size ≤ b1 := Nat.le_of_eq g1.symm
  have K1 := KL.ofE E1
  have F_b1_this_0 : Fd5 Z h1 b1 .null := D1 (Or.inr (w58 hw)) (ty := (.object "com/example/bourse/bourse/sim/InsertionOrder")) (by decide)
  have F_b1_next : Fd6 Z h1 b1 .null := D1 (Or.inl (w62 hw)) (ty := (.object "com/example/bourse/bourse/sim/InsertionOrder$Link")) (by decide)
  have F_b1_given : Fd7 Z h1 b1 .null := D1 (Or.inl (w78 hw)) (ty := (.object "com/example/bourse/bourse/sim/InsertionOrder$Link")) (by decide)
  have f3 := (kFld K1 F_o0_first nw0)
  have lt_o0 : o0 < h0.size := Fld.lt F_o0_first
  obtain ⟨_, T2, L2, X2, hQ2, st2⟩ := own_init X1 hx hZ rfl hown (w54 hw) (w55 hw) (w53 hw) (w56 hw) (by decide) (r_itinit0 l Z a0 hw [] b1 o0 .null .null h1 n0 (Nat.le_trans Z0 K1.1) F_b1_this_0 A1 (Nat.le_trans Z0 (Nat.le_trans (Nat.le_refl _) ge_b1)) f3 (Ne.symm (lt_ne lt_o0 ge_b1)) F_b1_next) e1 (W := 1) (by decide) (g := (mkF m 5 #[vr o0] [(.ref o0), (.ref b1), (.ref b1)])) rfl (by rw [hml]; rfl) (argsL := [(.ref o0)]) (rest := [(.ref b1)]) (lenOf pd_1 rfl) rfl rfl (own_wr rfl rfl) (hb hby d61)
  obtain ⟨rfl, N2q, K2, Q2_0, Q2_1⟩ := hQ2
  have N2 := Fr.app N0 N2q
  -- what was kept, from the start on
  have C0 := (KL.refl h0 []).trans K1 na0
  have C1 := C0.trans K2 (naO (Or.inr (Nat.le_trans (Nat.le_refl _) ge_b1)) (naO (Or.inr (Nat.le_trans (Nat.le_refl _) ge_b1)) na0))
  have f4 := (kExa K2 A1)
  have f5 := (kFld K2 F_b1_given (nwS (Or.inr (sn_9 hw)) (nwS (Or.inr (sn_8 hw)) nw0)))
  refine ⟨T2, _, some (.ref b1), X2, (fun h => by cases h <;> rfl), ?_, fun fs hr => ?_⟩
  · show Q_r_iter0 Z o0 h0 n0 _ T2.heap _
    exact ⟨b1, rfl, N2, C1, (Nat.le_trans (Nat.le_refl _) ge_b1), f4, Q2_0, Q2_1, f5⟩
  · refine st1 _ ?_
    refine t_dup 4 X1.here hx (hb hby d59) rfl rfl ?_
    refine t_aloadN 5 X1.here hx (hb hby d60) rfl rfl rfl ?_
    refine st2 _ ?_
    jvm_step X2.here [X2.here.top, hx, (hb hby d62), X2.method', hret, Value.isRef, FieldType.isReference]
    first | (intro acts; rw [hr _ acts rfl rfl rfl]) | rw [hr _ _ rfl rfl rfl]
    exact Steps.refl _
def WS_r_itinit1 (Z : State) (o0 : Addr) : List (Addr × Nat) := [(o0, (sl5 Z)), (o0, (sl6 Z))]
def Q_r_itinit1 (Z : State) (o0 o1 : Addr) (u_o0_this_0 : Value) (r : Addr) (u_o0_next : Value) (h0 : Heap) (n0 : Nat) (v : Option Value) (h : Heap) (L : List Loc) : Prop := v = none ∧ Fr n0 L ∧ KL h0 h (WS_r_itinit1 Z o0) ∧ Fd5 Z h o0 (.ref o1) ∧ Fd6 Z h o0 (.ref r)
theorem ef_r_itinit1 (o0 o1 : Addr) (m : MethodId) : entryFrame m #[(.ref o0), (.ref o1)] 2 = mkF m 0 #[.val (.ref o0), .val (.ref o1)] [] := by first | (simp [entryFrame, mkF, argsToLocals, Value.category]; done) | rfl
set_option maxRecDepth 65536 in
set_option maxHeartbeats 40000000 in
theorem r_itinit1 (l : Launch) (Z : State) (a0 : Array Value) (hw : HW Z a0) (ws : List Jvm.Cond) (o0 o1 : Addr) (u_o0_this_0 : Value) (r : Addr) (u_o0_next : Value) (h0 : Heap) (n0 : Nat) (Z0 : n0 ≤ h0.size) (F_o0_this_0 : Fd5 Z h0 o0 u_o0_this_0) (E_o0 : Ex2 Z h0 o0) (g_o0 : n0 ≤ o0) (F_o1_first : Fd2 Z h0 o1 (.ref r)) (ne_o0_o1 : o0 ≠ o1) (F_o0_next : Fd6 Z h0 o0 u_o0_next) :
    MF l Z y6__init_ b6_ 2 none ws ⟨1, 0, 0, 12⟩ #[(.ref o0), (.ref o1)] h0 (Q_r_itinit1 Z o0 o1 u_o0_this_0 r u_o0_next h0 n0) := by
  refine own_body (plainFor_of_name pn_InsertionOrder_1503) (ef_r_itinit1 o0 o1) (by decide) (by decide) ?_
  intro p e s m below meth c s₁ hx hby hml hown hnm hret hZ hh e0 X0
  have N0 := Fr.nil n0
  obtain ⟨T1, h1, X1, e1, W1, st1⟩ := putF X0 hx hZ hown (host := "") (Or.inl (w57 hw)) Via.refl e0 F_o0_this_0 E_o0 (Or.inr ⟨(w58 hw), rfl, hnm⟩) (w52 hw) (ty := (.object "com/example/bourse/bourse/sim/InsertionOrder")) (by decide) rfl rfl (g := (mkF m 2 #[vr o0, vr o1] [(.ref o1), (.ref o0)])) rfl rfl (hb hby d49)
  have K1 := KL.ofW W1
  have Fw1 : Fd5 Z h1 o0 (.ref o1) := Fld.same W1 F_o0_this_0
  have N1 := Fr.snoc X1 N0 g_o0
  obtain ⟨T2, X2, e2, st2⟩ := initO X1 hx hZ hown (w59 hw) (w12 hw) (w13 hw) e1 (g := (mkF m 6 #[vr o0, vr o1] [(.ref o0)])) rfl (by rw [hml]; rfl) rfl (hb hby d51) (by decide) (W := 0) (by show 2 * 0 + _ ≤ _; exact Nat.le_of_eq rfl) (by decide)
  obtain ⟨T3, X3, e3, st3⟩ := getF X2 hx hZ hown (host := "") (Or.inl (w57 hw)) Via.refl e2 Fw1 (g := (mkF m 11 #[vr o0, vr o1] [(.ref o0), (.ref o0)])) rfl rfl (hb hby d54)
  have f4 := (kFld K1 F_o1_first (nwS (Or.inl (Ne.symm ne_o0_o1)) nw0))
  obtain ⟨T5, X5, e5, st5⟩ := getF X3 hx hZ hown (Or.inr (w60 hw)) Via.refl e3 f4 (g := (mkF m 14 #[vr o0, vr o1] [(.ref o1), (.ref o0)])) rfl rfl (hb hby d55)
  have f6 := (kFld K1 F_o0_next (nwS (Or.inr (sn_6 hw)) nw0))
  have f7 := (kExa K1 E_o0)
  obtain ⟨T8, h8, X8, e8, W8, st8⟩ := putF X5 hx hZ hown (host := "") (Or.inl (w61 hw)) Via.refl e5 f6 f7 (Or.inl (w62 hw)) (w52 hw) (ty := (.object "com/example/bourse/bourse/sim/InsertionOrder$Link")) (by decide) rfl rfl (g := (mkF m 17 #[vr o0, vr o1] [(.ref r), (.ref o0)])) rfl rfl (hb hby d56)
  have K8 := KL.ofW W8
  have Fw8 : Fd6 Z h8 o0 (.ref r) := Fld.same W8 f6
  have N8 := Fr.snoc X8 N1 g_o0
  -- what was kept, from the start on
  have C0 := (KL.refl h0 (WS_r_itinit1 Z o0)).trans K1 (naO (own_mi 0 rfl) na0)
  have C1 := C0.trans K8 (naO (own_mi 1 rfl) na0)
  have f9 := (kFld K8 Fw1 (nwS (Or.inr (sn_7 hw)) nw0))
  refine ⟨T8, _, none, X8, (fun h => by cases h <;> rfl), ?_, fun fs hr => ?_⟩
  · show Q_r_itinit1 Z o0 o1 u_o0_this_0 r u_o0_next h0 n0 _ T8.heap _
    rw [e8]
    exact ⟨rfl, N8, C1, f9, Fw8⟩
  · refine t_aloadN 1 X0.here hx (hb hby d47) rfl rfl rfl ?_
    refine t_aloadN 2 X0.here hx (hb hby d48) rfl rfl rfl ?_
    refine st1 _ ?_
    refine t_aloadN 6 X1.here hx (hb hby d50) rfl rfl rfl ?_
    refine st2 _ ?_
    refine t_aloadN 10 X2.here hx (hb hby d52) rfl rfl rfl ?_
    refine t_aloadN 11 X2.here hx (hb hby d53) rfl rfl rfl ?_
    refine st3 _ ?_
    refine st5 _ ?_
    refine st8 _ ?_
    exact X8.returnOut hx hret (hb hby d57) hr
def Q_r_iter1 (Z : State) (o0 r : Addr) (h0 : Heap) (n0 : Nat) (v : Option Value) (h : Heap) (L : List Loc) : Prop := ∃ b1 : Addr, v = some (.ref b1) ∧ Fr n0 L ∧ KL h0 h [] ∧ h0.size ≤ b1 ∧ Ex2 Z h b1 ∧ Fd5 Z h b1 (.ref o0) ∧ Fd6 Z h b1 (.ref r) ∧ Fd7 Z h b1 .null
theorem ef_r_iter1 (o0 : Addr) (m : MethodId) : entryFrame m #[(.ref o0)] 1 = mkF m 0 #[.val (.ref o0)] [] := by first | (simp [entryFrame, mkF, argsToLocals, Value.category]; done) | rfl
set_option maxRecDepth 65536 in
set_option maxHeartbeats 40000000 in
theorem r_iter1 (l : Launch) (Z : State) (a0 : Array Value) (hw : HW Z a0) (ws : List Jvm.Cond) (o0 r : Addr) (h0 : Heap) (n0 : Nat) (Z0 : n0 ≤ h0.size) (F_o0_first : Fd2 Z h0 o0 (.ref r)) :
    MF l Z y7_iterator b7_ 1 (some (.object "java/util/Iterator")) ws ⟨2, 1, 3, 26⟩ #[(.ref o0)] h0 (Q_r_iter1 Z o0 r h0 n0) := by
  refine own_body (plainFor_of_name pn_InsertionOrder418) (ef_r_iter1 o0) (by decide) (by decide) ?_
  intro p e s m below meth c s₁ hx hby hml hown hnm hret hZ hh e0 X0
  have N0 := Fr.nil n0
  obtain ⟨T1, h1, X1, e1, E1, A1, D1, -, st1⟩ := newO X0 hx hZ hown (w51 hw) (w52 hw) (w53 hw) e0 (g := (mkF m 0 #[vr o0] [])) rfl (hb hby d58) (by decide) (by decide)
  obtain ⟨b1, g1⟩ : ∃ z, z = h0.size := ⟨_, rfl⟩
  rw [← g1] at A1 D1 st1
  have ge_b1 : h0.size ≤ b1 := Nat.le_of_eq g1.symm
  have K1 := KL.ofE E1
  have F_b1_this_0 : Fd5 Z h1 b1 .null := D1 (Or.inr (w58 hw)) (ty := (.object "com/example/bourse/bourse/sim/InsertionOrder")) (by decide)
  have F_b1_next : Fd6 Z h1 b1 .null := D1 (Or.inl (w62 hw)) (ty := (.object "com/example/bourse/bourse/sim/InsertionOrder$Link")) (by decide)
  have F_b1_given : Fd7 Z h1 b1 .null := D1 (Or.inl (w78 hw)) (ty := (.object "com/example/bourse/bourse/sim/InsertionOrder$Link")) (by decide)
  have f3 := (kFld K1 F_o0_first nw0)
  have lt_o0 : o0 < h0.size := Fld.lt F_o0_first
  obtain ⟨_, T2, L2, X2, hQ2, st2⟩ := own_init X1 hx hZ rfl hown (w54 hw) (w55 hw) (w53 hw) (w56 hw) (by decide) (r_itinit1 l Z a0 hw [] b1 o0 .null r .null h1 n0 (Nat.le_trans Z0 K1.1) F_b1_this_0 A1 (Nat.le_trans Z0 (Nat.le_trans (Nat.le_refl _) ge_b1)) f3 (Ne.symm (lt_ne lt_o0 ge_b1)) F_b1_next) e1 (W := 1) (by decide) (g := (mkF m 5 #[vr o0] [(.ref o0), (.ref b1), (.ref b1)])) rfl (by rw [hml]; rfl) (argsL := [(.ref o0)]) (rest := [(.ref b1)]) (lenOf pd_1 rfl) rfl rfl (own_wr rfl rfl) (hb hby d61)
  obtain ⟨rfl, N2q, K2, Q2_0, Q2_1⟩ := hQ2
  have N2 := Fr.app N0 N2q
  -- what was kept, from the start on
  have C0 := (KL.refl h0 []).trans K1 na0
  have C1 := C0.trans K2 (naO (Or.inr (Nat.le_trans (Nat.le_refl _) ge_b1)) (naO (Or.inr (Nat.le_trans (Nat.le_refl _) ge_b1)) na0))
  have f4 := (kExa K2 A1)
  have f5 := (kFld K2 F_b1_given (nwS (Or.inr (sn_9 hw)) (nwS (Or.inr (sn_8 hw)) nw0)))
  refine ⟨T2, _, some (.ref b1), X2, (fun h => by cases h <;> rfl), ?_, fun fs hr => ?_⟩
  · show Q_r_iter1 Z o0 r h0 n0 _ T2.heap _
    exact ⟨b1, rfl, N2, C1, (Nat.le_trans (Nat.le_refl _) ge_b1), f4, Q2_0, Q2_1, f5⟩
  · refine st1 _ ?_
    refine t_dup 4 X1.here hx (hb hby d59) rfl rfl ?_
    refine t_aloadN 5 X1.here hx (hb hby d60) rfl rfl rfl ?_
    refine st2 _ ?_
    jvm_step X2.here [X2.here.top, hx, (hb hby d62), X2.method', hret, Value.isRef, FieldType.isReference]
    first | (intro acts; rw [hr _ acts rfl rfl rfl]) | rw [hr _ _ rfl rfl rfl]
    exact Steps.refl _
abbrev b8_ := prog_159_method_3_code
theorem d63 : decode b8_ 0 = .ok (.aload_n 0, 1) := by decide +kernel
theorem d64 : decode b8_ 1 = .ok (.getfield 19, 3) := by decide +kernel
theorem d65 : decode b8_ 4 = .ok (.ifnonnull 11, 3) := by decide +kernel
theorem d66 : decode b8_ 15 = .ok (.aload_n 0, 1) := by decide +kernel
theorem d67 : decode b8_ 16 = .ok (.aload_n 0, 1) := by decide +kernel
theorem d68 : decode b8_ 17 = .ok (.getfield 19, 3) := by decide +kernel
theorem d69 : decode b8_ 20 = .ok (.putfield 25, 3) := by decide +kernel
def w77 (hw : HW Z a0) := ow 77 hw rfl
theorem d70 : decode b8_ 23 = .ok (.aload_n 0, 1) := by decide +kernel
theorem d71 : decode b8_ 24 = .ok (.aload_n 0, 1) := by decide +kernel
theorem d72 : decode b8_ 25 = .ok (.getfield 1, 3) := by decide +kernel
theorem sn_10 {Z : State} {a0 : Array Value} (hw : HW Z a0) : Jvm.RoadKit.slotOf Z "com/example/bourse/bourse/sim/InsertionOrder$1" "this$0" "Lcom/example/bourse/bourse/sim/InsertionOrder;" ≠ Jvm.RoadKit.slotOf Z "com/example/bourse/bourse/sim/InsertionOrder$1" "given" "Lcom/example/bourse/bourse/sim/InsertionOrder$Link;" := slot_ne (C := "com/example/bourse/bourse/sim/InsertionOrder$1") (a0 := a0) (Or.inr (w58 hw)) (Or.inl (w78 hw)) (by decide) (t := (.object "com/example/bourse/bourse/sim/InsertionOrder")) (t' := (.object "com/example/bourse/bourse/sim/InsertionOrder$Link")) (by decide) (by decide)
theorem d73 : decode b8_ 28 = .ok (.aload_n 0, 1) := by decide +kernel
theorem d74 : decode b8_ 29 = .ok (.getfield 25, 3) := by decide +kernel
theorem d75 : decode b8_ 32 = .ok (.invokevirtual 28, 3) := by decide +kernel
def w79 (hw : HW Z a0) := ow 79 hw rfl
def w42 (hw : HW Z a0) := ow 42 hw rfl
def w43 (hw : HW Z a0) := ow 43 hw rfl
def w16 (hw : HW Z a0) := ow 16 hw rfl
theorem pd_2 : parseMethodDescriptor "(Lcom/example/bourse/bourse/sim/InsertionOrder$Link;)Lcom/example/bourse/bourse/sim/InsertionOrder$Link;" = some ⟨[(.object "com/example/bourse/bourse/sim/InsertionOrder$Link")], some (.object "com/example/bourse/bourse/sim/InsertionOrder$Link")⟩ := by decide +kernel
def w40 (hw : HW Z a0) := ow 40 hw rfl
def w41 (hw : HW Z a0) := ow 41 hw rfl
theorem d76 : decode b8_ 35 = .ok (.putfield 19, 3) := by decide +kernel
theorem sn_11 {Z : State} {a0 : Array Value} (hw : HW Z a0) : Jvm.RoadKit.slotOf Z "com/example/bourse/bourse/sim/InsertionOrder$1" "next" "Lcom/example/bourse/bourse/sim/InsertionOrder$Link;" ≠ Jvm.RoadKit.slotOf Z "com/example/bourse/bourse/sim/InsertionOrder$1" "given" "Lcom/example/bourse/bourse/sim/InsertionOrder$Link;" := slot_ne (C := "com/example/bourse/bourse/sim/InsertionOrder$1") (a0 := a0) (Or.inl (w62 hw)) (Or.inl (w78 hw)) (by decide) (t := (.object "com/example/bourse/bourse/sim/InsertionOrder$Link")) (t' := (.object "com/example/bourse/bourse/sim/InsertionOrder$Link")) (by decide) (by decide)
theorem d77 : decode b8_ 38 = .ok (.aload_n 0, 1) := by decide +kernel
theorem d78 : decode b8_ 39 = .ok (.getfield 25, 3) := by decide +kernel
theorem d79 : decode b8_ 42 = .ok (.areturn, 1) := by decide +kernel
abbrev y8_next : MethodName := ⟨"com/example/bourse/bourse/sim/InsertionOrder$1", "next", "()Lcom/example/bourse/bourse/sim/InsertionOrder$Link;"⟩
def WS_r_next0 (Z : State) (o0 : Addr) : List (Addr × Nat) := [(o0, (sl7 Z)), (o0, (sl6 Z))]
def Q_r_next0 (Z : State) (o0 r : Addr) (u_o0_given : Value) (t : Addr) (h0 : Heap) (n0 : Nat) (v : Option Value) (h : Heap) (L : List Loc) : Prop := v = some (.ref r) ∧ Fr n0 L ∧ KL h0 h (WS_r_next0 Z o0) ∧ Fd7 Z h o0 (.ref r) ∧ Fd6 Z h o0 .null
theorem ef_r_next0 (o0 : Addr) (m : MethodId) : entryFrame m #[(.ref o0)] 1 = mkF m 0 #[.val (.ref o0)] [] := by first | (simp [entryFrame, mkF, argsToLocals, Value.category]; done) | rfl
set_option maxRecDepth 65536 in
set_option maxHeartbeats 40000000 in
theorem r_next0 (l : Launch) (Z : State) (a0 : Array Value) (hw : HW Z a0) (ws : List Jvm.Cond) (o0 r : Addr) (u_o0_given : Value) (t : Addr) (h0 : Heap) (n0 : Nat) (Z0 : n0 ≤ h0.size) (F_o0_next : Fd6 Z h0 o0 (.ref r)) (F_o0_given : Fd7 Z h0 o0 u_o0_given) (E_o0 : Ex2 Z h0 o0) (g_o0 : n0 ≤ o0) (F_o0_this_0 : Fd5 Z h0 o0 (.ref t)) (E_t : Ex1 Z h0 t) (F_r_after : Fd4 Z h0 r .null) (ne_o0_r : o0 ≠ r) :
    MF l Z y8_next b8_ 1 (some (.object "com/example/bourse/bourse/sim/InsertionOrder$Link")) ws ⟨1, 0, 0, 15⟩ #[(.ref o0)] h0 (Q_r_next0 Z o0 r u_o0_given t h0 n0) := by
  refine own_body (plainFor_of_name pn_InsertionOrder_1503) (ef_r_next0 o0) (by decide) (by decide) ?_
  intro p e s m below meth c s₁ hx hby hml hown hnm hret hZ hh e0 X0
  have N0 := Fr.nil n0
  obtain ⟨T1, X1, e1, st1⟩ := getF X0 hx hZ hown (host := "") (Or.inl (w61 hw)) Via.refl e0 F_o0_next (g := (mkF m 1 #[vr o0] [(.ref o0)])) rfl rfl (hb hby d64)
  obtain ⟨T2, X2, e2, st2⟩ := getF X1 hx hZ hown (host := "") (Or.inl (w61 hw)) Via.refl e1 F_o0_next (g := (mkF m 17 #[vr o0] [(.ref o0), (.ref o0)])) rfl rfl (hb hby d68)
  obtain ⟨T3, h3, X3, e3, W3, st3⟩ := putF X2 hx hZ hown (host := "") (Or.inl (w77 hw)) Via.refl e2 F_o0_given E_o0 (Or.inl (w78 hw)) (w52 hw) (ty := (.object "com/example/bourse/bourse/sim/InsertionOrder$Link")) (by decide) rfl rfl (g := (mkF m 20 #[vr o0] [(.ref r), (.ref o0)])) rfl rfl (hb hby d69)
  have K3 := KL.ofW W3
  have Fw3 : Fd7 Z h3 o0 (.ref r) := Fld.same W3 F_o0_given
  have N3 := Fr.snoc X3 N0 g_o0
  have f4 := (kFld K3 F_o0_this_0 (nwS (Or.inr (sn_10 hw)) nw0))
  obtain ⟨T5, X5, e5, st5⟩ := getF X3 hx hZ hown (host := "") (Or.inl (w57 hw)) Via.refl e3 f4 (g := (mkF m 25 #[vr o0] [(.ref o0), (.ref o0)])) rfl rfl (hb hby d72)
  obtain ⟨T6, X6, e6, st6⟩ := getF X5 hx hZ hown (host := "") (Or.inl (w77 hw)) Via.refl e5 Fw3 (g := (mkF m 29 #[vr o0] [(.ref o0), (.ref t), (.ref o0)])) rfl rfl (hb hby d74)
  have f8 := (kFld K3 F_r_after (nwS (Or.inl (Ne.symm ne_o0_r)) nw0))
  have f9 := (kExa K3 E_t)
  obtain ⟨_, T7, L7, X7, hQ7, st7⟩ := own_virtual X6 hx hZ hown (w79 hw) (w40 hw) (notFace_of_selects (args := #[]) (mvT hZ (w42 hw))) (w42 hw) (w41 hw) (w16 hw) (w43 hw) (by decide) (r_after0 l Z a0 hw [] t r h3 n0 (Nat.le_trans Z0 K3.1) f8) e6 f9 (W := 1) (by decide) (g := (mkF m 32 #[vr o0] [(.ref r), (.ref t), (.ref o0)])) rfl (by rw [hml]; rfl) (argsL := [(.ref r)]) (rest := [(.ref o0)]) (lenOf pd_2 rfl) rfl rfl (own_wr rfl rfl) (hb hby d75)
  obtain ⟨rfl, N7q, e7⟩ := hQ7
  have N7 := Fr.app N3 N7q
  have f10 := (kFld K3 F_o0_next (nwS (Or.inr (sn_11 hw)) nw0))
  have f11 := (kExa K3 E_o0)
  obtain ⟨T12, h12, X12, e12, W12, st12⟩ := putF X7 hx hZ hown (host := "") (Or.inl (w61 hw)) Via.refl e7 f10 f11 (Or.inl (w62 hw)) (w52 hw) (ty := (.object "com/example/bourse/bourse/sim/InsertionOrder$Link")) (by decide) rfl rfl (g := (mkF m 35 #[vr o0] [.null, (.ref o0)])) rfl rfl (hb hby d76)
  have K12 := KL.ofW W12
  have Fw12 : Fd6 Z h12 o0 .null := Fld.same W12 f10
  have N12 := Fr.snoc X12 N7 g_o0
  have f13 := (kFld K12 Fw3 (nwS (Or.inr (sn_8 hw)) nw0))
  obtain ⟨T14, X14, e14, st14⟩ := getF X12 hx hZ hown (host := "") (Or.inl (w77 hw)) Via.refl e12 f13 (g := (mkF m 39 #[vr o0] [(.ref o0)])) rfl rfl (hb hby d78)
  -- what was kept, from the start on
  have C0 := (KL.refl h0 (WS_r_next0 Z o0)).trans K3 (naO (own_mi 0 rfl) na0)
  have C1 := C0.trans K12 (naO (own_mi 1 rfl) na0)
  refine ⟨T14, _, some (.ref r), X14, (fun h => by cases h <;> rfl), ?_, fun fs hr => ?_⟩
  · show Q_r_next0 Z o0 r u_o0_given t h0 n0 _ T14.heap _
    rw [e14]
    exact ⟨rfl, N12, C1, f13, Fw12⟩
  · refine t_aloadN 1 X0.here hx (hb hby d63) rfl rfl rfl ?_
    refine st1 _ ?_
    refine t_ifnonnullYes (pc := 4) 15 X1.here hx (hb hby d65) (by decide) (by decide) ?_
    refine t_aloadN 16 X1.here hx (hb hby d66) rfl rfl rfl ?_
    refine t_aloadN 17 X1.here hx (hb hby d67) rfl rfl rfl ?_
    refine st2 _ ?_
    refine st3 _ ?_
    refine t_aloadN 24 X3.here hx (hb hby d70) rfl rfl rfl ?_
    refine t_aloadN 25 X3.here hx (hb hby d71) rfl rfl rfl ?_
    refine st5 _ ?_
    refine t_aloadN 29 X5.here hx (hb hby d73) rfl rfl rfl ?_
    refine st6 _ ?_
    refine st7 _ ?_
    refine st12 _ ?_
    refine t_aloadN 39 X12.here hx (hb hby d77) rfl rfl rfl ?_
    refine st14 _ ?_
    jvm_step X14.here [X14.here.top, hx, (hb hby d79), X14.method', hret, Value.isRef, FieldType.isReference]
    first | (intro acts; rw [hr _ acts rfl rfl rfl]) | rw [hr _ _ rfl rfl rfl]
    exact Steps.refl _
abbrev b9_ := prog_159_method_5_code
theorem d80 : decode b9_ 0 = .ok (.aload_n 0, 1) := by decide +kernel
theorem d81 : decode b9_ 1 = .ok (.invokevirtual 39, 3) := by decide +kernel
def w72 (hw : HW Z a0) := ow 72 hw rfl
def w75 (hw : HW Z a0) := ow 75 hw rfl
def w76 (hw : HW Z a0) := ow 76 hw rfl
theorem pd_3 : parseMethodDescriptor "()Lcom/example/bourse/bourse/sim/InsertionOrder$Link;" = some ⟨[], some (.object "com/example/bourse/bourse/sim/InsertionOrder$Link")⟩ := by decide +kernel
def w73 (hw : HW Z a0) := ow 73 hw rfl
def w74 (hw : HW Z a0) := ow 74 hw rfl
theorem d82 : decode b9_ 4 = .ok (.areturn, 1) := by decide +kernel
abbrev y9_next : MethodName := ⟨"com/example/bourse/bourse/sim/InsertionOrder$1", "next", "()Ljava/lang/Object;"⟩
def WS_r_nextb0 (Z : State) (o0 : Addr) : List (Addr × Nat) := [(o0, (sl7 Z)), (o0, (sl6 Z))]
def Q_r_nextb0 (Z : State) (o0 r : Addr) (u_o0_given : Value) (t : Addr) (h0 : Heap) (n0 : Nat) (v : Option Value) (h : Heap) (L : List Loc) : Prop := v = some (.ref r) ∧ Fr n0 L ∧ KL h0 h (WS_r_nextb0 Z o0) ∧ Fd7 Z h o0 (.ref r) ∧ Fd6 Z h o0 .null
theorem ef_r_nextb0 (o0 : Addr) (m : MethodId) : entryFrame m #[(.ref o0)] 1 = mkF m 0 #[.val (.ref o0)] [] := by first | (simp [entryFrame, mkF, argsToLocals, Value.category]; done) | rfl
set_option maxRecDepth 65536 in
set_option maxHeartbeats 40000000 in
theorem r_nextb0 (l : Launch) (Z : State) (a0 : Array Value) (hw : HW Z a0) (ws : List Jvm.Cond) (o0 r : Addr) (u_o0_given : Value) (t : Addr) (h0 : Heap) (n0 : Nat) (Z0 : n0 ≤ h0.size) (E_o0 : Ex2 Z h0 o0) (F_o0_next : Fd6 Z h0 o0 (.ref r)) (F_o0_given : Fd7 Z h0 o0 u_o0_given) (F_o0_this_0 : Fd5 Z h0 o0 (.ref t)) (E_t : Ex1 Z h0 t) (F_r_after : Fd4 Z h0 r .null) (g_o0 : n0 ≤ o0) (ne_o0_r : o0 ≠ r) :
    MF l Z y9_next b9_ 1 (some (.object "java/lang/Object")) ws ⟨2, 0, 0, 27⟩ #[(.ref o0)] h0 (Q_r_nextb0 Z o0 r u_o0_given t h0 n0) := by
  refine own_body (plainFor_of_name pn_InsertionOrder_1503) (ef_r_nextb0 o0) (by decide) (by decide) ?_
  intro p e s m below meth c s₁ hx hby hml hown hnm hret hZ hh e0 X0
  have N0 := Fr.nil n0
  obtain ⟨_, T1, L1, X1, hQ1, st1⟩ := own_virtual X0 hx hZ hown (w72 hw) (w73 hw) (notFace_of_selects (args := #[]) (mvT hZ (w75 hw))) (w75 hw) (w74 hw) (w53 hw) (w76 hw) (by decide) (r_next0 l Z a0 hw [] o0 r u_o0_given t h0 n0 Z0 F_o0_next F_o0_given E_o0 g_o0 F_o0_this_0 E_t F_r_after ne_o0_r) e0 E_o0 (W := 0) (by decide) (g := (mkF m 1 #[vr o0] [(.ref o0)])) rfl (by rw [hml]; rfl) (argsL := []) (rest := []) (lenOf pd_3 rfl) rfl rfl (own_wr rfl rfl) (hb hby d81)
  obtain ⟨rfl, N1q, K1, Q1_0, Q1_1⟩ := hQ1
  have N1 := Fr.app N0 N1q
  -- what was kept, from the start on
  have C0 := (KL.refl h0 (WS_r_nextb0 Z o0)).trans K1 (naO (own_mi 0 rfl) (naO (own_mi 1 rfl) na0))
  refine ⟨T1, _, some (.ref r), X1, (fun h => by cases h <;> rfl), ?_, fun fs hr => ?_⟩
  · show Q_r_nextb0 Z o0 r u_o0_given t h0 n0 _ T1.heap _
    exact ⟨rfl, N1, C0, Q1_0, Q1_1⟩
  · refine t_aloadN 1 X0.here hx (hb hby d80) rfl rfl rfl ?_
    refine st1 _ ?_
    jvm_step X1.here [X1.here.top, hx, (hb hby d82), X1.method', hret, Value.isRef, FieldType.isReference]
    first | (intro acts; rw [hr _ acts rfl rfl rfl]) | rw [hr _ _ rfl rfl rfl]
    exact Steps.refl _
def WS_r_next1 (Z : State) (o0 : Addr) : List (Addr × Nat) := [(o0, (sl7 Z)), (o0, (sl6 Z))]
def Q_r_next1 (Z : State) (o0 r : Addr) (u_o0_given : Value) (t w : Addr) (h0 : Heap) (n0 : Nat) (v : Option Value) (h : Heap) (L : List Loc) : Prop := v = some (.ref r) ∧ Fr n0 L ∧ KL h0 h (WS_r_next1 Z o0) ∧ Fd7 Z h o0 (.ref r) ∧ Fd6 Z h o0 (.ref w)
theorem ef_r_next1 (o0 : Addr) (m : MethodId) : entryFrame m #[(.ref o0)] 1 = mkF m 0 #[.val (.ref o0)] [] := by first | (simp [entryFrame, mkF, argsToLocals, Value.category]; done) | rfl
set_option maxRecDepth 65536 in
set_option maxHeartbeats 40000000 in
theorem r_next1 (l : Launch) (Z : State) (a0 : Array Value) (hw : HW Z a0) (ws : List Jvm.Cond) (o0 r : Addr) (u_o0_given : Value) (t w : Addr) (h0 : Heap) (n0 : Nat) (Z0 : n0 ≤ h0.size) (F_o0_next : Fd6 Z h0 o0 (.ref r)) (F_o0_given : Fd7 Z h0 o0 u_o0_given) (E_o0 : Ex2 Z h0 o0) (g_o0 : n0 ≤ o0) (F_o0_this_0 : Fd5 Z h0 o0 (.ref t)) (E_t : Ex1 Z h0 t) (F_r_after : Fd4 Z h0 r (.ref w)) (E_w : Ex0 Z h0 w) (ne_o0_r : o0 ≠ r) :
    MF l Z y8_next b8_ 1 (some (.object "com/example/bourse/bourse/sim/InsertionOrder$Link")) ws ⟨1, 0, 0, 15⟩ #[(.ref o0)] h0 (Q_r_next1 Z o0 r u_o0_given t w h0 n0) := by
  refine own_body (plainFor_of_name pn_InsertionOrder_1503) (ef_r_next1 o0) (by decide) (by decide) ?_
  intro p e s m below meth c s₁ hx hby hml hown hnm hret hZ hh e0 X0
  have N0 := Fr.nil n0
  obtain ⟨T1, X1, e1, st1⟩ := getF X0 hx hZ hown (host := "") (Or.inl (w61 hw)) Via.refl e0 F_o0_next (g := (mkF m 1 #[vr o0] [(.ref o0)])) rfl rfl (hb hby d64)
  obtain ⟨T2, X2, e2, st2⟩ := getF X1 hx hZ hown (host := "") (Or.inl (w61 hw)) Via.refl e1 F_o0_next (g := (mkF m 17 #[vr o0] [(.ref o0), (.ref o0)])) rfl rfl (hb hby d68)
  obtain ⟨T3, h3, X3, e3, W3, st3⟩ := putF X2 hx hZ hown (host := "") (Or.inl (w77 hw)) Via.refl e2 F_o0_given E_o0 (Or.inl (w78 hw)) (w52 hw) (ty := (.object "com/example/bourse/bourse/sim/InsertionOrder$Link")) (by decide) rfl rfl (g := (mkF m 20 #[vr o0] [(.ref r), (.ref o0)])) rfl rfl (hb hby d69)
  have K3 := KL.ofW W3
  have Fw3 : Fd7 Z h3 o0 (.ref r) := Fld.same W3 F_o0_given
  have N3 := Fr.snoc X3 N0 g_o0
  have f4 := (kFld K3 F_o0_this_0 (nwS (Or.inr (sn_10 hw)) nw0))
  obtain ⟨T5, X5, e5, st5⟩ := getF X3 hx hZ hown (host := "") (Or.inl (w57 hw)) Via.refl e3 f4 (g := (mkF m 25 #[vr o0] [(.ref o0), (.ref o0)])) rfl rfl (hb hby d72)
  obtain ⟨T6, X6, e6, st6⟩ := getF X5 hx hZ hown (host := "") (Or.inl (w77 hw)) Via.refl e5 Fw3 (g := (mkF m 29 #[vr o0] [(.ref o0), (.ref t), (.ref o0)])) rfl rfl (hb hby d74)
  have f8 := (kFld K3 F_r_after (nwS (Or.inl (Ne.symm ne_o0_r)) nw0))
  have f9 := (kExa K3 E_w)
  have f10 := (kExa K3 E_t)
  obtain ⟨_, T7, L7, X7, hQ7, st7⟩ := own_virtual X6 hx hZ hown (w79 hw) (w40 hw) (notFace_of_selects (args := #[]) (mvT hZ (w42 hw))) (w42 hw) (w41 hw) (w16 hw) (w43 hw) (by decide) (r_after1 l Z a0 hw [] t r w h3 n0 (Nat.le_trans Z0 K3.1) f8 f9) e6 f10 (W := 1) (by decide) (g := (mkF m 32 #[vr o0] [(.ref r), (.ref t), (.ref o0)])) rfl (by rw [hml]; rfl) (argsL := [(.ref r)]) (rest := [(.ref o0)]) (lenOf pd_2 rfl) rfl rfl (own_wr rfl rfl) (hb hby d75)
  obtain ⟨rfl, N7q, e7⟩ := hQ7
  have N7 := Fr.app N3 N7q
  have f11 := (kFld K3 F_o0_next (nwS (Or.inr (sn_11 hw)) nw0))
  have f12 := (kExa K3 E_o0)
  obtain ⟨T13, h13, X13, e13, W13, st13⟩ := putF X7 hx hZ hown (host := "") (Or.inl (w61 hw)) Via.refl e7 f11 f12 (Or.inl (w62 hw)) (w52 hw) (ty := (.object "com/example/bourse/bourse/sim/InsertionOrder$Link")) (by decide) rfl rfl (g := (mkF m 35 #[vr o0] [(.ref w), (.ref o0)])) rfl rfl (hb hby d76)
  have K13 := KL.ofW W13
  have Fw13 : Fd6 Z h13 o0 (.ref w) := Fld.same W13 f11
  have N13 := Fr.snoc X13 N7 g_o0
  have f14 := (kFld K13 Fw3 (nwS (Or.inr (sn_8 hw)) nw0))
  obtain ⟨T15, X15, e15, st15⟩ := getF X13 hx hZ hown (host := "") (Or.inl (w77 hw)) Via.refl e13 f14 (g := (mkF m 39 #[vr o0] [(.ref o0)])) rfl rfl (hb hby d78)
  -- what was kept, from the start on
  have C0 := (KL.refl h0 (WS_r_next1 Z o0)).trans K3 (naO (own_mi 0 rfl) na0)
  have C1 := C0.trans K13 (naO (own_mi 1 rfl) na0)
  refine ⟨T15, _, some (.ref r), X15, (fun h => by cases h <;> rfl), ?_, fun fs hr => ?_⟩
  · show Q_r_next1 Z o0 r u_o0_given t w h0 n0 _ T15.heap _
    rw [e15]
    exact ⟨rfl, N13, C1, f14, Fw13⟩
  · refine t_aloadN 1 X0.here hx (hb hby d63) rfl rfl rfl ?_
    refine st1 _ ?_
    refine t_ifnonnullYes (pc := 4) 15 X1.here hx (hb hby d65) (by decide) (by decide) ?_
    refine t_aloadN 16 X1.here hx (hb hby d66) rfl rfl rfl ?_
    refine t_aloadN 17 X1.here hx (hb hby d67) rfl rfl rfl ?_
    refine st2 _ ?_
    refine st3 _ ?_
    refine t_aloadN 24 X3.here hx (hb hby d70) rfl rfl rfl ?_
    refine t_aloadN 25 X3.here hx (hb hby d71) rfl rfl rfl ?_
    refine st5 _ ?_
    refine t_aloadN 29 X5.here hx (hb hby d73) rfl rfl rfl ?_
    refine st6 _ ?_
    refine st7 _ ?_
    refine st13 _ ?_
    refine t_aloadN 39 X13.here hx (hb hby d77) rfl rfl rfl ?_
    refine st15 _ ?_
    jvm_step X15.here [X15.here.top, hx, (hb hby d79), X15.method', hret, Value.isRef, FieldType.isReference]
    first | (intro acts; rw [hr _ acts rfl rfl rfl]) | rw [hr _ _ rfl rfl rfl]
    exact Steps.refl _
def WS_r_nextb1 (Z : State) (o0 : Addr) : List (Addr × Nat) := [(o0, (sl7 Z)), (o0, (sl6 Z))]
def Q_r_nextb1 (Z : State) (o0 r : Addr) (u_o0_given : Value) (t w : Addr) (h0 : Heap) (n0 : Nat) (v : Option Value) (h : Heap) (L : List Loc) : Prop := v = some (.ref r) ∧ Fr n0 L ∧ KL h0 h (WS_r_nextb1 Z o0) ∧ Fd7 Z h o0 (.ref r) ∧ Fd6 Z h o0 (.ref w)
theorem ef_r_nextb1 (o0 : Addr) (m : MethodId) : entryFrame m #[(.ref o0)] 1 = mkF m 0 #[.val (.ref o0)] [] := by first | (simp [entryFrame, mkF, argsToLocals, Value.category]; done) | rfl
set_option maxRecDepth 65536 in
set_option maxHeartbeats 40000000 in
theorem r_nextb1 (l : Launch) (Z : State) (a0 : Array Value) (hw : HW Z a0) (ws : List Jvm.Cond) (o0 r : Addr) (u_o0_given : Value) (t w : Addr) (h0 : Heap) (n0 : Nat) (Z0 : n0 ≤ h0.size) (E_o0 : Ex2 Z h0 o0) (F_o0_next : Fd6 Z h0 o0 (.ref r)) (F_o0_given : Fd7 Z h0 o0 u_o0_given) (F_o0_this_0 : Fd5 Z h0 o0 (.ref t)) (E_t : Ex1 Z h0 t) (F_r_after : Fd4 Z h0 r (.ref w)) (E_w : Ex0 Z h0 w) (g_o0 : n0 ≤ o0) (ne_o0_r : o0 ≠ r) :
    MF l Z y9_next b9_ 1 (some (.object "java/lang/Object")) ws ⟨2, 0, 0, 27⟩ #[(.ref o0)] h0 (Q_r_nextb1 Z o0 r u_o0_given t w h0 n0) := by
  refine own_body (plainFor_of_name pn_InsertionOrder_1503) (ef_r_nextb1 o0) (by decide) (by decide) ?_
  intro p e s m below meth c s₁ hx hby hml hown hnm hret hZ hh e0 X0
  have N0 := Fr.nil n0
  obtain ⟨_, T1, L1, X1, hQ1, st1⟩ := own_virtual X0 hx hZ hown (w72 hw) (w73 hw) (notFace_of_selects (args := #[]) (mvT hZ (w75 hw))) (w75 hw) (w74 hw) (w53 hw) (w76 hw) (by decide) (r_next1 l Z a0 hw [] o0 r u_o0_given t w h0 n0 Z0 F_o0_next F_o0_given E_o0 g_o0 F_o0_this_0 E_t F_r_after E_w ne_o0_r) e0 E_o0 (W := 0) (by decide) (g := (mkF m 1 #[vr o0] [(.ref o0)])) rfl (by rw [hml]; rfl) (argsL := []) (rest := []) (lenOf pd_3 rfl) rfl rfl (own_wr rfl rfl) (hb hby d81)
  obtain ⟨rfl, N1q, K1, Q1_0, Q1_1⟩ := hQ1
  have N1 := Fr.app N0 N1q
  -- what was kept, from the start on
  have C0 := (KL.refl h0 (WS_r_nextb1 Z o0)).trans K1 (naO (own_mi 0 rfl) (naO (own_mi 1 rfl) na0))
  refine ⟨T1, _, some (.ref r), X1, (fun h => by cases h <;> rfl), ?_, fun fs hr => ?_⟩
  · show Q_r_nextb1 Z o0 r u_o0_given t w h0 n0 _ T1.heap _
    exact ⟨rfl, N1, C0, Q1_0, Q1_1⟩
  · refine t_aloadN 1 X0.here hx (hb hby d80) rfl rfl rfl ?_
    refine st1 _ ?_
    jvm_step X1.here [X1.here.top, hx, (hb hby d82), X1.method', hret, Value.isRef, FieldType.isReference]
    first | (intro acts; rw [hr _ acts rfl rfl rfl]) | rw [hr _ _ rfl rfl rfl]
    exact Steps.refl _
abbrev b10_ := prog_159_method_2_code
theorem d83 : decode b10_ 0 = .ok (.aload_n 0, 1) := by decide +kernel
theorem d84 : decode b10_ 1 = .ok (.getfield 19, 3) := by decide +kernel
theorem d85 : decode b10_ 4 = .ok (.ifnull 7, 3) := by decide +kernel
theorem d86 : decode b10_ 11 = .ok (.iconst 0, 1) := by decide +kernel
theorem d87 : decode b10_ 12 = .ok (.ireturn, 1) := by decide +kernel
abbrev y10_hasNext : MethodName := ⟨"com/example/bourse/bourse/sim/InsertionOrder$1", "hasNext", "()Z"⟩
def Q_r_has0 (Z : State) (o0 : Addr) (h0 : Heap) (n0 : Nat) (v : Option Value) (h : Heap) (L : List Loc) : Prop := v = some z0 ∧ Fr n0 L ∧ h = h0
theorem ef_r_has0 (o0 : Addr) (m : MethodId) : entryFrame m #[(.ref o0)] 1 = mkF m 0 #[.val (.ref o0)] [] := by first | (simp [entryFrame, mkF, argsToLocals, Value.category]; done) | rfl
set_option maxRecDepth 65536 in
set_option maxHeartbeats 40000000 in
theorem r_has0 (l : Launch) (Z : State) (a0 : Array Value) (hw : HW Z a0) (ws : List Jvm.Cond) (o0 : Addr) (h0 : Heap) (n0 : Nat) (Z0 : n0 ≤ h0.size) (F_o0_next : Fd6 Z h0 o0 .null) :
    MF l Z y10_hasNext b10_ 1 (some .boolean) ws ⟨0, 0, 0, 0⟩ #[(.ref o0)] h0 (Q_r_has0 Z o0 h0 n0) := by
  refine own_body (plainFor_of_name pn_InsertionOrder_1503) (ef_r_has0 o0) (by decide) (by decide) ?_
  intro p e s m below meth c s₁ hx hby hml hown hnm hret hZ hh e0 X0
  have N0 := Fr.nil n0
  obtain ⟨T1, X1, e1, st1⟩ := getF X0 hx hZ hown (host := "") (Or.inl (w61 hw)) Via.refl e0 F_o0_next (g := (mkF m 1 #[vr o0] [(.ref o0)])) rfl rfl (hb hby d84)
  refine ⟨T1, _, some z0, X1, (fun h => by cases h <;> rfl), ?_, fun fs hr => ?_⟩
  · show Q_r_has0 Z o0 h0 n0 _ T1.heap _
    rw [e1]
    exact ⟨rfl, N0, rfl⟩
  · refine t_aloadN 1 X0.here hx (hb hby d83) rfl rfl rfl ?_
    refine st1 _ ?_
    refine t_ifnullYes (pc := 4) 11 X1.here hx (hb hby d85) (by decide) (by decide) ?_
    refine t_iconst 12 (r := 0) X1.here hx (hb hby d86) (by decide) rfl ?_
    exact retN X1 hx (t := .boolean) hret (by simp) (hb hby d87) hr
abbrev b11_ := prog_158_method_3_code
theorem d88 : decode b11_ 0 = .ok (.aload_n 1, 1) := by decide +kernel
theorem d89 : decode b11_ 1 = .ok (.astore_n 2, 1) := by decide +kernel
theorem d90 : decode b11_ 2 = .ok (.aload_n 2, 1) := by decide +kernel
theorem d91 : decode b11_ 3 = .ok (.getfield 13, 3) := by decide +kernel
theorem d92 : decode b11_ 6 = .ok (.ifnonnull 17, 3) := by decide +kernel
theorem d93 : decode b11_ 9 = .ok (.aload_n 0, 1) := by decide +kernel
theorem d94 : decode b11_ 10 = .ok (.aload_n 2, 1) := by decide +kernel
theorem d95 : decode b11_ 11 = .ok (.getfield 22, 3) := by decide +kernel
theorem d96 : decode b11_ 14 = .ok (.checkcast 14, 3) := by decide +kernel
theorem d97 : decode b11_ 17 = .ok (.putfield 19, 3) := by decide +kernel
theorem d98 : decode b11_ 20 = .ok (.goto 19, 3) := by decide +kernel
theorem d99 : decode b11_ 39 = .ok (.aload_n 2, 1) := by decide +kernel
theorem d100 : decode b11_ 40 = .ok (.getfield 22, 3) := by decide +kernel
theorem d101 : decode b11_ 43 = .ok (.ifnonnull 17, 3) := by decide +kernel
theorem d102 : decode b11_ 46 = .ok (.aload_n 0, 1) := by decide +kernel
theorem d103 : decode b11_ 47 = .ok (.aload_n 2, 1) := by decide +kernel
theorem d104 : decode b11_ 48 = .ok (.getfield 13, 3) := by decide +kernel
theorem d105 : decode b11_ 51 = .ok (.checkcast 14, 3) := by decide +kernel
theorem d106 : decode b11_ 54 = .ok (.putfield 7, 3) := by decide +kernel
theorem d107 : decode b11_ 57 = .ok (.goto 19, 3) := by decide +kernel
theorem d108 : decode b11_ 76 = .ok (.aload_n 2, 1) := by decide +kernel
theorem d109 : decode b11_ 77 = .ok (.aconst_null, 1) := by decide +kernel
theorem d110 : decode b11_ 78 = .ok (.putfield 13, 3) := by decide +kernel
theorem d111 : decode b11_ 81 = .ok (.aload_n 2, 1) := by decide +kernel
theorem d112 : decode b11_ 82 = .ok (.aconst_null, 1) := by decide +kernel
theorem d113 : decode b11_ 83 = .ok (.putfield 22, 3) := by decide +kernel
theorem sn_12 {Z : State} {a0 : Array Value} (hw : HW Z a0) : Jvm.RoadKit.slotOf Z "com/example/bourse/bourse/sim/InsertionOrder$Link" "after" "Ljava/lang/Object;" ≠ Jvm.RoadKit.slotOf Z "com/example/bourse/bourse/sim/InsertionOrder$Link" "before" "Ljava/lang/Object;" := slot_ne (C := "com/example/bourse/bourse/sim/InsertionOrderAddPinLaw") (a0 := a0) (Or.inl (w45 hw)) (Or.inl (w29 hw)) (by decide) (t := (.object "java/lang/Object")) (t' := (.object "java/lang/Object")) (by decide) (by decide)
theorem d114 : decode b11_ 86 = .ok (.aload_n 0, 1) := by decide +kernel
theorem d115 : decode b11_ 87 = .ok (.dup, 1) := by decide +kernel
theorem d116 : decode b11_ 88 = .ok (.getfield 25, 3) := by decide +kernel
theorem d117 : decode b11_ 91 = .ok (.iconst 1, 1) := by decide +kernel
theorem d118 : decode b11_ 92 = .ok (.isub, 1) := by decide +kernel
theorem d119 : decode b11_ 93 = .ok (.putfield 25, 3) := by decide +kernel
theorem d120 : decode b11_ 96 = .ok (.return_, 1) := by decide +kernel
theorem sn_13 {Z : State} {a0 : Array Value} (hw : HW Z a0) : Jvm.RoadKit.slotOf Z "com/example/bourse/bourse/sim/InsertionOrder$Link" "before" "Ljava/lang/Object;" ≠ Jvm.RoadKit.slotOf Z "com/example/bourse/bourse/sim/InsertionOrder$Link" "after" "Ljava/lang/Object;" := slot_ne (C := "com/example/bourse/bourse/sim/InsertionOrderAddPinLaw") (a0 := a0) (Or.inl (w29 hw)) (Or.inl (w45 hw)) (by decide) (t := (.object "java/lang/Object")) (t' := (.object "java/lang/Object")) (by decide) (by decide)
abbrev y11_remove : MethodName := ⟨"com/example/bourse/bourse/sim/InsertionOrder", "remove", "(Lcom/example/bourse/bourse/sim/InsertionOrder$Link;)V"⟩
def WS_r_rem0 (Z : State) (o0 o1 : Addr) : List (Addr × Nat) := [(o0, (sl2 Z)), (o0, (sl0 Z)), (o1, (sl1 Z)), (o1, (sl4 Z)), (o0, (sl3 Z))]
def Q_r_rem0 (Z : State) (o0 o1 : Addr) (u_o0_first u_o0_last : Value) (p_o0_size : Int32) (h0 : Heap) (n0 : Nat) (v : Option Value) (h : Heap) (L : List Loc) : Prop := v = none ∧ Fr n0 L ∧ KL h0 h (WS_r_rem0 Z o0 o1) ∧ Fd2 Z h o0 .null ∧ Fd0 Z h o0 .null ∧ Fd1 Z h o1 .null ∧ Fd4 Z h o1 .null ∧ Fd3 Z h o0 (.int (p_o0_size - (1 : Int32)))
theorem ef_r_rem0 (o0 o1 : Addr) (m : MethodId) : entryFrame m #[(.ref o0), (.ref o1)] 4 = mkF m 0 #[.val (.ref o0), .val (.ref o1), .unset, .unset] [] := by first | (simp [entryFrame, mkF, argsToLocals, Value.category]; done) | rfl
set_option maxRecDepth 65536 in
set_option maxHeartbeats 40000000 in
theorem r_rem0 (l : Launch) (Z : State) (a0 : Array Value) (hw : HW Z a0) (ws : List Jvm.Cond) (o0 o1 : Addr) (u_o0_first u_o0_last : Value) (p_o0_size : Int32) (h0 : Heap) (n0 : Nat) (Z0 : n0 ≤ h0.size) (F_o1_before : Fd1 Z h0 o1 .null) (F_o1_after : Fd4 Z h0 o1 .null) (F_o0_first : Fd2 Z h0 o0 u_o0_first) (E_o0 : Ex1 Z h0 o0) (g_o0 : n0 ≤ o0) (ne_o0_o1 : o0 ≠ o1) (F_o0_last : Fd0 Z h0 o0 u_o0_last) (E_o1 : Ex0 Z h0 o1) (g_o1 : n0 ≤ o1) (F_o0_size : Fd3 Z h0 o0 (.int p_o0_size)) :
    MF l Z y11_remove b11_ 4 none ws ⟨0, 0, 0, 0⟩ #[(.ref o0), (.ref o1)] h0 (Q_r_rem0 Z o0 o1 u_o0_first u_o0_last p_o0_size h0 n0) := by
  refine own_body (plainFor_of_name pn_InsertionOrder418) (ef_r_rem0 o0 o1) (by decide) (by decide) ?_
  intro p e s m below meth c s₁ hx hby hml hown hnm hret hZ hh e0 X0
  have N0 := Fr.nil n0
  obtain ⟨T1, X1, e1, st1⟩ := own_getFR X0 hx hZ hown (w28 hw) e0 F_o1_before (g := (mkF m 3 #[vr o0, vr o1, vr o1, .unset] [(.ref o1)])) rfl rfl (hb hby d91)
  obtain ⟨T2, X2, e2, st2⟩ := own_getFR X1 hx hZ hown (w44 hw) e1 F_o1_after (g := (mkF m 11 #[vr o0, vr o1, vr o1, .unset] [(.ref o1), (.ref o0)])) rfl rfl (hb hby d95)
  obtain ⟨T3, h3, X3, e3, W3, st3⟩ := putF X2 hx hZ hown (host := "") (Or.inl (w30 hw)) Via.refl e2 F_o0_first E_o0 (Or.inl (w31 hw)) (w15 hw) (ty := (.object "com/example/bourse/bourse/sim/InsertionOrder$Link")) (by decide) rfl rfl (g := (mkF m 17 #[vr o0, vr o1, vr o1, .unset] [.null, (.ref o0)])) rfl rfl (hb hby d97)
  have K3 := KL.ofW W3
  have Fw3 : Fd2 Z h3 o0 .null := Fld.same W3 F_o0_first
  have N3 := Fr.snoc X3 N0 g_o0
  have f4 := (kFld K3 F_o1_after (nwS (Or.inl (Ne.symm ne_o0_o1)) nw0))
  obtain ⟨T5, X5, e5, st5⟩ := own_getFR X3 hx hZ hown (w44 hw) e3 f4 (g := (mkF m 40 #[vr o0, vr o1, vr o1, .unset] [(.ref o1)])) rfl rfl (hb hby d100)
  have f6 := (kFld K3 F_o1_before (nwS (Or.inl (Ne.symm ne_o0_o1)) nw0))
  obtain ⟨T7, X7, e7, st7⟩ := own_getFR X5 hx hZ hown (w28 hw) e5 f6 (g := (mkF m 48 #[vr o0, vr o1, vr o1, .unset] [(.ref o1), (.ref o0)])) rfl rfl (hb hby d104)
  have f8 := (kFld K3 F_o0_last (nwS (Or.inr (sn_0 hw)) nw0))
  have f9 := (kExa K3 E_o0)
  obtain ⟨T10, h10, X10, e10, W10, st10⟩ := putF X7 hx hZ hown (host := "") (Or.inl (w26 hw)) Via.refl e7 f8 f9 (Or.inl (w27 hw)) (w15 hw) (ty := (.object "com/example/bourse/bourse/sim/InsertionOrder$Link")) (by decide) rfl rfl (g := (mkF m 54 #[vr o0, vr o1, vr o1, .unset] [.null, (.ref o0)])) rfl rfl (hb hby d106)
  have K10 := KL.ofW W10
  have Fw10 : Fd0 Z h10 o0 .null := Fld.same W10 f8
  have N10 := Fr.snoc X10 N3 g_o0
  have f11 := (kFld K10 f6 (nwS (Or.inl (Ne.symm ne_o0_o1)) nw0))
  have f12 := (kExa K10 (kExa K3 E_o1))
  obtain ⟨T13, h13, X13, e13, W13, st13⟩ := own_putFR X10 hx hZ hown (w28 hw) e10 f11 f12 (w29 hw) (w1 hw) (ty := (.object "java/lang/Object")) (by decide) rfl rfl (g := (mkF m 78 #[vr o0, vr o1, vr o1, .unset] [.null, (.ref o1)])) rfl rfl (hb hby d110)
  have K13 := KL.ofW W13
  have Fw13 : Fd1 Z h13 o1 .null := Fld.same W13 f11
  have N13 := Fr.snoc X13 N10 g_o1
  have f14 := (kFld K13 (kFld K10 f4 (nwS (Or.inl (Ne.symm (ne_exa E_o0 E_o1 (by decide)))) nw0)) (nwS (Or.inr (sn_12 hw)) nw0))
  have f15 := (kExa K13 f12)
  obtain ⟨T16, h16, X16, e16, W16, st16⟩ := own_putFR X13 hx hZ hown (w44 hw) e13 f14 f15 (w45 hw) (w1 hw) (ty := (.object "java/lang/Object")) (by decide) rfl rfl (g := (mkF m 83 #[vr o0, vr o1, vr o1, .unset] [.null, (.ref o1)])) rfl rfl (hb hby d113)
  have K16 := KL.ofW W16
  have Fw16 : Fd4 Z h16 o1 .null := Fld.same W16 f14
  have N16 := Fr.snoc X16 N13 g_o1
  have f17 := (kFld K16 (kFld K13 (kFld K10 (kFld K3 F_o0_size (nwS (Or.inr (sn_1 hw)) nw0)) (nwS (Or.inr (sn_2 hw)) nw0)) (nwS (Or.inl (ne_exa E_o0 E_o1 (by decide))) nw0)) (nwS (Or.inl (ne_exa E_o0 E_o1 (by decide))) nw0))
  obtain ⟨T18, X18, e18, st18⟩ := getF X16 hx hZ hown (host := "") (Or.inl (w32 hw)) Via.refl e16 f17 (g := (mkF m 88 #[vr o0, vr o1, vr o1, .unset] [(.ref o0), (.ref o0)])) rfl rfl (hb hby d116)
  have f19 := (kExa K16 (kExa K13 (kExa K10 f9)))
  obtain ⟨T20, h20, X20, e20, W20, st20⟩ := putF X18 hx hZ hown (host := "") (Or.inl (w32 hw)) Via.refl e18 f17 f19 (Or.inl (w33 hw)) (w15 hw) (ty := .int) (by decide) rfl rfl (g := (mkF m 93 #[vr o0, vr o1, vr o1, .unset] [(.int (p_o0_size - (1 : Int32))), (.ref o0)])) rfl rfl (hb hby d119)
  have K20 := KL.ofW W20
  have Fw20 : Fd3 Z h20 o0 (.int (p_o0_size - (1 : Int32))) := Fld.same W20 f17
  have N20 := Fr.snoc X20 N16 g_o0
  -- what was kept, from the start on
  have C0 := (KL.refl h0 (WS_r_rem0 Z o0 o1)).trans K3 (naO (own_mi 0 rfl) na0)
  have C1 := C0.trans K10 (naO (own_mi 1 rfl) na0)
  have C2 := C1.trans K13 (naO (own_mi 2 rfl) na0)
  have C3 := C2.trans K16 (naO (own_mi 3 rfl) na0)
  have C4 := C3.trans K20 (naO (own_mi 4 rfl) na0)
  have f21 := (kFld K20 (kFld K16 (kFld K13 (kFld K10 Fw3 (nwS (Or.inr (sn_3 hw)) nw0)) (nwS (Or.inl (ne_exa E_o0 E_o1 (by decide))) nw0)) (nwS (Or.inl (ne_exa E_o0 E_o1 (by decide))) nw0)) (nwS (Or.inr (sn_4 hw)) nw0))
  have f22 := (kFld K20 (kFld K16 (kFld K13 Fw10 (nwS (Or.inl (ne_exa E_o0 E_o1 (by decide))) nw0)) (nwS (Or.inl (ne_exa E_o0 E_o1 (by decide))) nw0)) (nwS (Or.inr (sn_5 hw)) nw0))
  have f23 := (kFld K20 (kFld K16 Fw13 (nwS (Or.inr (sn_13 hw)) nw0)) (nwS (Or.inl (Ne.symm (ne_exa E_o0 E_o1 (by decide)))) nw0))
  have f24 := (kFld K20 Fw16 (nwS (Or.inl (Ne.symm (ne_exa E_o0 E_o1 (by decide)))) nw0))
  refine ⟨T20, _, none, X20, (fun h => by cases h <;> rfl), ?_, fun fs hr => ?_⟩
  · show Q_r_rem0 Z o0 o1 u_o0_first u_o0_last p_o0_size h0 n0 _ T20.heap _
    rw [e20]
    exact ⟨rfl, N20, C4, f21, f22, f23, f24, Fw20⟩
  · refine t_aloadN 1 X0.here hx (hb hby d88) rfl rfl rfl ?_
    refine t_astoreN (pc' := 2) (L' := #[vr o0, vr o1, vr o1, .unset]) X0.here hx (hb hby d89) rfl rfl rfl ?_
    refine t_aloadN 3 X0.here hx (hb hby d90) rfl rfl rfl ?_
    refine st1 _ ?_
    refine t_ifnonnullNo 9 X1.here hx (hb hby d92) rfl ?_
    refine t_aloadN 10 X1.here hx (hb hby d93) rfl rfl rfl ?_
    refine t_aloadN 11 X1.here hx (hb hby d94) rfl rfl rfl ?_
    refine st2 _ ?_
    refine X2.checkcastNull hx (g := (mkF m 14 #[vr o0, vr o1, vr o1, .unset] [.null, (.ref o0)])) rfl rfl (hb hby d96) _ ?_
    refine st3 _ ?_
    refine t_goto (pc := 20) 39 X3.here hx (hb hby d98) (by decide) (by decide) ?_
    refine t_aloadN 40 X3.here hx (hb hby d99) rfl rfl rfl ?_
    refine st5 _ ?_
    refine t_ifnonnullNo 46 X5.here hx (hb hby d101) rfl ?_
    refine t_aloadN 47 X5.here hx (hb hby d102) rfl rfl rfl ?_
    refine t_aloadN 48 X5.here hx (hb hby d103) rfl rfl rfl ?_
    refine st7 _ ?_
    refine X7.checkcastNull hx (g := (mkF m 51 #[vr o0, vr o1, vr o1, .unset] [.null, (.ref o0)])) rfl rfl (hb hby d105) _ ?_
    refine st10 _ ?_
    refine t_goto (pc := 57) 76 X10.here hx (hb hby d107) (by decide) (by decide) ?_
    refine t_aloadN 77 X10.here hx (hb hby d108) rfl rfl rfl ?_
    refine t_aconst_null 78 X10.here hx (hb hby d109) rfl ?_
    refine st13 _ ?_
    refine t_aloadN 82 X13.here hx (hb hby d111) rfl rfl rfl ?_
    refine t_aconst_null 83 X13.here hx (hb hby d112) rfl ?_
    refine st16 _ ?_
    refine t_aloadN 87 X16.here hx (hb hby d114) rfl rfl rfl ?_
    refine t_dup 88 X16.here hx (hb hby d115) rfl rfl ?_
    refine st18 _ ?_
    refine t_iconst 92 (r := 1) X18.here hx (hb hby d117) (by decide) rfl ?_
    refine t_isub 93 X18.here hx (hb hby d118) rfl rfl ?_
    refine st20 _ ?_
    exact X20.returnOut hx hret (hb hby d120) hr
theorem d121 : decode b11_ 23 = .ok (.aload_n 2, 1) := by decide +kernel
theorem d122 : decode b11_ 24 = .ok (.getfield 13, 3) := by decide +kernel
theorem d123 : decode b11_ 27 = .ok (.checkcast 14, 3) := by decide +kernel
theorem d124 : decode b11_ 30 = .ok (.astore_n 3, 1) := by decide +kernel
theorem d125 : decode b11_ 31 = .ok (.aload_n 3, 1) := by decide +kernel
theorem d126 : decode b11_ 32 = .ok (.aload_n 2, 1) := by decide +kernel
theorem d127 : decode b11_ 33 = .ok (.getfield 22, 3) := by decide +kernel
theorem d128 : decode b11_ 36 = .ok (.putfield 22, 3) := by decide +kernel
def WS_r_rem1 (Z : State) (o0 o1 r : Addr) : List (Addr × Nat) := [(r, (sl4 Z)), (o0, (sl0 Z)), (o1, (sl1 Z)), (o1, (sl4 Z)), (o0, (sl3 Z))]
def Q_r_rem1 (Z : State) (o0 o1 r : Addr) (u_r_after u_o0_last : Value) (p_o0_size : Int32) (h0 : Heap) (n0 : Nat) (v : Option Value) (h : Heap) (L : List Loc) : Prop := v = none ∧ Fr n0 L ∧ KL h0 h (WS_r_rem1 Z o0 o1 r) ∧ Fd4 Z h r .null ∧ Fd0 Z h o0 (.ref r) ∧ Fd1 Z h o1 .null ∧ Fd4 Z h o1 .null ∧ Fd3 Z h o0 (.int (p_o0_size - (1 : Int32)))
theorem ef_r_rem1 (o0 o1 : Addr) (m : MethodId) : entryFrame m #[(.ref o0), (.ref o1)] 4 = mkF m 0 #[.val (.ref o0), .val (.ref o1), .unset, .unset] [] := by first | (simp [entryFrame, mkF, argsToLocals, Value.category]; done) | rfl
set_option maxRecDepth 65536 in
set_option maxHeartbeats 40000000 in
theorem r_rem1 (l : Launch) (Z : State) (a0 : Array Value) (hw : HW Z a0) (ws : List Jvm.Cond) (o0 o1 r : Addr) (u_r_after u_o0_last : Value) (p_o0_size : Int32) (h0 : Heap) (n0 : Nat) (Z0 : n0 ≤ h0.size) (F_o1_before : Fd1 Z h0 o1 (.ref r)) (E_r : Ex0 Z h0 r) (F_o1_after : Fd4 Z h0 o1 .null) (F_r_after : Fd4 Z h0 r u_r_after) (g_r : n0 ≤ r) (ne_o1_r : o1 ≠ r) (F_o0_last : Fd0 Z h0 o0 u_o0_last) (ne_o0_r : o0 ≠ r) (E_o0 : Ex1 Z h0 o0) (g_o0 : n0 ≤ o0) (ne_o0_o1 : o0 ≠ o1) (E_o1 : Ex0 Z h0 o1) (g_o1 : n0 ≤ o1) (F_o0_size : Fd3 Z h0 o0 (.int p_o0_size)) :
    MF l Z y11_remove b11_ 4 none ws ⟨0, 0, 0, 0⟩ #[(.ref o0), (.ref o1)] h0 (Q_r_rem1 Z o0 o1 r u_r_after u_o0_last p_o0_size h0 n0) := by
  refine own_body (plainFor_of_name pn_InsertionOrder418) (ef_r_rem1 o0 o1) (by decide) (by decide) ?_
  intro p e s m below meth c s₁ hx hby hml hown hnm hret hZ hh e0 X0
  have N0 := Fr.nil n0
  obtain ⟨T1, X1, e1, st1⟩ := own_getFR X0 hx hZ hown (w28 hw) e0 F_o1_before (g := (mkF m 3 #[vr o0, vr o1, vr o1, .unset] [(.ref o1)])) rfl rfl (hb hby d91)
  obtain ⟨T2, X2, e2, st2⟩ := own_getFR X1 hx hZ hown (w28 hw) e1 F_o1_before (g := (mkF m 24 #[vr o0, vr o1, vr o1, .unset] [(.ref o1)])) rfl rfl (hb hby d122)
  obtain ⟨T3, X3, e3, st3⟩ := castY X2 hx hZ hown (w93 hw) e2 (Ins.of_exa E_r (w94 hw)) (g := (mkF m 27 #[vr o0, vr o1, vr o1, .unset] [(.ref r)])) rfl rfl (hb hby d123)
  obtain ⟨T4, X4, e4, st4⟩ := own_getFR X3 hx hZ hown (w44 hw) e3 F_o1_after (g := (mkF m 33 #[vr o0, vr o1, vr o1, vr r] [(.ref o1), (.ref r)])) rfl rfl (hb hby d127)
  obtain ⟨T5, h5, X5, e5, W5, st5⟩ := own_putFR X4 hx hZ hown (w44 hw) e4 F_r_after E_r (w45 hw) (w1 hw) (ty := (.object "java/lang/Object")) (by decide) rfl rfl (g := (mkF m 36 #[vr o0, vr o1, vr o1, vr r] [.null, (.ref r)])) rfl rfl (hb hby d128)
  have K5 := KL.ofW W5
  have Fw5 : Fd4 Z h5 r .null := Fld.same W5 F_r_after
  have N5 := Fr.snoc X5 N0 g_r
  have f6 := (kFld K5 F_o1_after (nwS (Or.inl ne_o1_r) nw0))
  obtain ⟨T7, X7, e7, st7⟩ := own_getFR X5 hx hZ hown (w44 hw) e5 f6 (g := (mkF m 40 #[vr o0, vr o1, vr o1, vr r] [(.ref o1)])) rfl rfl (hb hby d100)
  have f8 := (kFld K5 F_o1_before (nwS (Or.inl ne_o1_r) nw0))
  obtain ⟨T9, X9, e9, st9⟩ := own_getFR X7 hx hZ hown (w28 hw) e7 f8 (g := (mkF m 48 #[vr o0, vr o1, vr o1, vr r] [(.ref o1), (.ref o0)])) rfl rfl (hb hby d104)
  have f10 := (kExa K5 E_r)
  obtain ⟨T11, X11, e11, st11⟩ := castY X9 hx hZ hown (w93 hw) e9 (Ins.of_exa f10 (w94 hw)) (g := (mkF m 51 #[vr o0, vr o1, vr o1, vr r] [(.ref r), (.ref o0)])) rfl rfl (hb hby d105)
  have f12 := (kFld K5 F_o0_last (nwS (Or.inl ne_o0_r) nw0))
  have f13 := (kExa K5 E_o0)
  obtain ⟨T14, h14, X14, e14, W14, st14⟩ := putF X11 hx hZ hown (host := "") (Or.inl (w26 hw)) Via.refl e11 f12 f13 (Or.inl (w27 hw)) (w15 hw) (ty := (.object "com/example/bourse/bourse/sim/InsertionOrder$Link")) (by decide) rfl rfl (g := (mkF m 54 #[vr o0, vr o1, vr o1, vr r] [(.ref r), (.ref o0)])) rfl rfl (hb hby d106)
  have K14 := KL.ofW W14
  have Fw14 : Fd0 Z h14 o0 (.ref r) := Fld.same W14 f12
  have N14 := Fr.snoc X14 N5 g_o0
  have f15 := (kFld K14 f8 (nwS (Or.inl (Ne.symm ne_o0_o1)) nw0))
  have f16 := (kExa K14 (kExa K5 E_o1))
  obtain ⟨T17, h17, X17, e17, W17, st17⟩ := own_putFR X14 hx hZ hown (w28 hw) e14 f15 f16 (w29 hw) (w1 hw) (ty := (.object "java/lang/Object")) (by decide) rfl rfl (g := (mkF m 78 #[vr o0, vr o1, vr o1, vr r] [.null, (.ref o1)])) rfl rfl (hb hby d110)
  have K17 := KL.ofW W17
  have Fw17 : Fd1 Z h17 o1 .null := Fld.same W17 f15
  have N17 := Fr.snoc X17 N14 g_o1
  have f18 := (kFld K17 (kFld K14 f6 (nwS (Or.inl (Ne.symm (ne_exa E_o0 E_o1 (by decide)))) nw0)) (nwS (Or.inr (sn_12 hw)) nw0))
  have f19 := (kExa K17 f16)
  obtain ⟨T20, h20, X20, e20, W20, st20⟩ := own_putFR X17 hx hZ hown (w44 hw) e17 f18 f19 (w45 hw) (w1 hw) (ty := (.object "java/lang/Object")) (by decide) rfl rfl (g := (mkF m 83 #[vr o0, vr o1, vr o1, vr r] [.null, (.ref o1)])) rfl rfl (hb hby d113)
  have K20 := KL.ofW W20
  have Fw20 : Fd4 Z h20 o1 .null := Fld.same W20 f18
  have N20 := Fr.snoc X20 N17 g_o1
  have f21 := (kFld K20 (kFld K17 (kFld K14 (kFld K5 F_o0_size (nwS (Or.inl (ne_exa E_o0 E_r (by decide))) nw0)) (nwS (Or.inr (sn_2 hw)) nw0)) (nwS (Or.inl (ne_exa E_o0 E_o1 (by decide))) nw0)) (nwS (Or.inl (ne_exa E_o0 E_o1 (by decide))) nw0))
  obtain ⟨T22, X22, e22, st22⟩ := getF X20 hx hZ hown (host := "") (Or.inl (w32 hw)) Via.refl e20 f21 (g := (mkF m 88 #[vr o0, vr o1, vr o1, vr r] [(.ref o0), (.ref o0)])) rfl rfl (hb hby d116)
  have f23 := (kExa K20 (kExa K17 (kExa K14 f13)))
  obtain ⟨T24, h24, X24, e24, W24, st24⟩ := putF X22 hx hZ hown (host := "") (Or.inl (w32 hw)) Via.refl e22 f21 f23 (Or.inl (w33 hw)) (w15 hw) (ty := .int) (by decide) rfl rfl (g := (mkF m 93 #[vr o0, vr o1, vr o1, vr r] [(.int (p_o0_size - (1 : Int32))), (.ref o0)])) rfl rfl (hb hby d119)
  have K24 := KL.ofW W24
  have Fw24 : Fd3 Z h24 o0 (.int (p_o0_size - (1 : Int32))) := Fld.same W24 f21
  have N24 := Fr.snoc X24 N20 g_o0
  -- what was kept, from the start on
  have C0 := (KL.refl h0 (WS_r_rem1 Z o0 o1 r)).trans K5 (naO (own_mi 0 rfl) na0)
  have C1 := C0.trans K14 (naO (own_mi 1 rfl) na0)
  have C2 := C1.trans K17 (naO (own_mi 2 rfl) na0)
  have C3 := C2.trans K20 (naO (own_mi 3 rfl) na0)
  have C4 := C3.trans K24 (naO (own_mi 4 rfl) na0)
  have f25 := (kFld K24 (kFld K20 (kFld K17 (kFld K14 Fw5 (nwS (Or.inl (Ne.symm (ne_exa E_o0 E_r (by decide)))) nw0)) (nwS (Or.inl (Ne.symm ne_o1_r)) nw0)) (nwS (Or.inl (Ne.symm ne_o1_r)) nw0)) (nwS (Or.inl (Ne.symm (ne_exa E_o0 E_r (by decide)))) nw0))
  have f26 := (kFld K24 (kFld K20 (kFld K17 Fw14 (nwS (Or.inl (ne_exa E_o0 E_o1 (by decide))) nw0)) (nwS (Or.inl (ne_exa E_o0 E_o1 (by decide))) nw0)) (nwS (Or.inr (sn_5 hw)) nw0))
  have f27 := (kFld K24 (kFld K20 Fw17 (nwS (Or.inr (sn_13 hw)) nw0)) (nwS (Or.inl (Ne.symm (ne_exa E_o0 E_o1 (by decide)))) nw0))
  have f28 := (kFld K24 Fw20 (nwS (Or.inl (Ne.symm (ne_exa E_o0 E_o1 (by decide)))) nw0))
  refine ⟨T24, _, none, X24, (fun h => by cases h <;> rfl), ?_, fun fs hr => ?_⟩
  · show Q_r_rem1 Z o0 o1 r u_r_after u_o0_last p_o0_size h0 n0 _ T24.heap _
    rw [e24]
    exact ⟨rfl, N24, C4, f25, f26, f27, f28, Fw24⟩
  · refine t_aloadN 1 X0.here hx (hb hby d88) rfl rfl rfl ?_
    refine t_astoreN (pc' := 2) (L' := #[vr o0, vr o1, vr o1, .unset]) X0.here hx (hb hby d89) rfl rfl rfl ?_
    refine t_aloadN 3 X0.here hx (hb hby d90) rfl rfl rfl ?_
    refine st1 _ ?_
    refine t_ifnonnullYes (pc := 6) 23 X1.here hx (hb hby d92) (by decide) (by decide) ?_
    refine t_aloadN 24 X1.here hx (hb hby d121) rfl rfl rfl ?_
    refine st2 _ ?_
    refine st3 _ ?_
    refine t_astoreN (pc' := 31) (L' := #[vr o0, vr o1, vr o1, vr r]) X3.here hx (hb hby d124) rfl rfl rfl ?_
    refine t_aloadN 32 X3.here hx (hb hby d125) rfl rfl rfl ?_
    refine t_aloadN 33 X3.here hx (hb hby d126) rfl rfl rfl ?_
    refine st4 _ ?_
    refine st5 _ ?_
    refine t_aloadN 40 X5.here hx (hb hby d99) rfl rfl rfl ?_
    refine st7 _ ?_
    refine t_ifnonnullNo 46 X7.here hx (hb hby d101) rfl ?_
    refine t_aloadN 47 X7.here hx (hb hby d102) rfl rfl rfl ?_
    refine t_aloadN 48 X7.here hx (hb hby d103) rfl rfl rfl ?_
    refine st9 _ ?_
    refine st11 _ ?_
    refine st14 _ ?_
    refine t_goto (pc := 57) 76 X14.here hx (hb hby d107) (by decide) (by decide) ?_
    refine t_aloadN 77 X14.here hx (hb hby d108) rfl rfl rfl ?_
    refine t_aconst_null 78 X14.here hx (hb hby d109) rfl ?_
    refine st17 _ ?_
    refine t_aloadN 82 X17.here hx (hb hby d111) rfl rfl rfl ?_
    refine t_aconst_null 83 X17.here hx (hb hby d112) rfl ?_
    refine st20 _ ?_
    refine t_aloadN 87 X20.here hx (hb hby d114) rfl rfl rfl ?_
    refine t_dup 88 X20.here hx (hb hby d115) rfl rfl ?_
    refine st22 _ ?_
    refine t_iconst 92 (r := 1) X22.here hx (hb hby d117) (by decide) rfl ?_
    refine t_isub 93 X22.here hx (hb hby d118) rfl rfl ?_
    refine st24 _ ?_
    exact X24.returnOut hx hret (hb hby d120) hr
def w0 (hw : HW Z a0) := ow 0 hw rfl
def w2 (hw : HW Z a0) := ow 2 hw rfl
def w3 (hw : HW Z a0) := ow 3 hw rfl
def w5 (hw : HW Z a0) := ow 5 hw rfl
def w4 (hw : HW Z a0) := ow 4 hw rfl
def w14 (hw : HW Z a0) := ow 14 hw rfl
def w17 (hw : HW Z a0) := ow 17 hw rfl
def w19 (hw : HW Z a0) := ow 19 hw rfl
def w18 (hw : HW Z a0) := ow 18 hw rfl
def w21 (hw : HW Z a0) := ow 21 hw rfl
def w24 (hw : HW Z a0) := ow 24 hw rfl
def w25 (hw : HW Z a0) := ow 25 hw rfl
theorem pd_4 : parseMethodDescriptor "(Lcom/example/bourse/bourse/sim/InsertionOrder$Link;)V" = some ⟨[(.object "com/example/bourse/bourse/sim/InsertionOrder$Link")], none⟩ := by decide +kernel
def w22 (hw : HW Z a0) := ow 22 hw rfl
def w23 (hw : HW Z a0) := ow 23 hw rfl
def w34 (hw : HW Z a0) := ow 34 hw rfl
def w37 (hw : HW Z a0) := ow 37 hw rfl
def w38 (hw : HW Z a0) := ow 38 hw rfl
theorem pd_5 : parseMethodDescriptor "()I" = some ⟨[], some .int⟩ := by decide +kernel
def w35 (hw : HW Z a0) := ow 35 hw rfl
def w36 (hw : HW Z a0) := ow 36 hw rfl
def w39 (hw : HW Z a0) := ow 39 hw rfl
def w46 (hw : HW Z a0) := ow 46 hw rfl
def w49 (hw : HW Z a0) := ow 49 hw rfl
def w50 (hw : HW Z a0) := ow 50 hw rfl
theorem pd_6 : parseMethodDescriptor "()Ljava/util/Iterator;" = some ⟨[], some (.object "java/util/Iterator")⟩ := by decide +kernel
def w47 (hw : HW Z a0) := ow 47 hw rfl
def w48 (hw : HW Z a0) := ow 48 hw rfl
def w63 (hw : HW Z a0) := ow 63 hw rfl
def w66 (hw : HW Z a0) := ow 66 hw rfl
def w71 (hw : HW Z a0) := ow 71 hw rfl
theorem pd_7 : parseMethodDescriptor "()Ljava/lang/Object;" = some ⟨[], some (.object "java/lang/Object")⟩ := by decide +kernel
def w64 (hw : HW Z a0) := ow 64 hw rfl
def w65 (hw : HW Z a0) := ow 65 hw rfl
def w67 (hw : HW Z a0) := ow 67 hw rfl
def w68 (hw : HW Z a0) := ow 68 hw rfl
def w69 (hw : HW Z a0) := ow 69 hw rfl
def w70 (hw : HW Z a0) := ow 70 hw rfl
def Q_law (n0 : Nat) (v : Option Value) (L : List Loc) : Prop := v = some (.int 1) ∧ Fr n0 L
theorem ef_law_0_0 (p0 p1 : Int32) (m : MethodId) : entryFrame m #[(.int p0), (.int p1)] maxLocals = mkF m 0 #[.val (.int p0), .val (.int p1), .unset, .unset, .unset, .unset, .unset, .unset, .unset, .unset, .unset, .unset] [] := by first | (simp [entryFrame, mkF, argsToLocals, Value.category, maxLocals]; done) | rfl
set_option maxRecDepth 65536 in
set_option maxHeartbeats 40000000 in
theorem law_0_0 (l : Launch) (Z : State) (a0 : Array Value) (hw : HW Z a0) (ws : List Jvm.Cond) (p0 p1 : Int32) (h0 : Heap) (n0 : Nat) (Z0 : n0 ≤ h0.size) (hk : p0 &&& (3 : Int32) = (0 : Int32)) (hm : p1 &&& (1 : Int32) = (0 : Int32)) :
    MetFree l x (head1 (Jvm.Cond.code x code maxLocals ret :: ws) room_1) (fun a U => a = #[(.int p0), (.int p1)] ∧ Z.Warmed39 U.vm ∧ U.heap = h0) (fun _ _ _ _ _ => True) (fun _ U o U' => ∃ v L, o = .returned v ∧ Q_law n0 v L ∧ FrameEnd U o U' L 24 128) := by
  refine own_law (y := x) (k := 6) (n := 14) (plainFor_of_name pn_InsertionOrderAddPinLaw273) (ef_law_0_0 p0 p1) (by decide) (by decide) ?_
  intro p e s m below meth c s₁ hx hby hml hown hnm hret hZ hh e0 X0
  have N0 := Fr.nil n0
  obtain ⟨T1, h1, X1, e1, E1, A1, D1, -, st1⟩ := newO X0 hx hZ hown (w0 hw) (w1 hw) (w2 hw) e0 (g := (mkF m 16 #[vi p0, vi p1, vi 0, vi 0, .unset, .unset, .unset, .unset, .unset, .unset, .unset, .unset] [])) rfl (hb hby at_16) (by decide) (by decide)
  obtain ⟨b1, g1⟩ : ∃ z, z = h0.size := ⟨_, rfl⟩
  rw [← g1] at A1 D1 st1
  have ge_b1 : h0.size ≤ b1 := Nat.le_of_eq g1.symm
  have K1 := KL.ofE E1
  have F_b1_before : Fd1 Z h1 b1 .null := D1 (Or.inl (w29 hw)) (ty := (.object "java/lang/Object")) (by decide)
  have F_b1_after : Fd4 Z h1 b1 .null := D1 (Or.inl (w45 hw)) (ty := (.object "java/lang/Object")) (by decide)
  obtain ⟨_, T2, L2, X2, hQ2, st2⟩ := own_init X1 hx hZ rfl hown (w3 hw) (w4 hw) (w2 hw) (w5 hw) (by decide) (r_init l Z a0 hw [] b1 h1 n0 (Nat.le_trans Z0 K1.1)) e1 (W := 1) (by decide) (g := (mkF m 20 #[vi p0, vi p1, vi 0, vi 0, .unset, .unset, .unset, .unset, .unset, .unset, .unset, .unset] [(.ref b1), (.ref b1)])) rfl (by rw [hml]; rfl) (argsL := []) (rest := [(.ref b1)]) (lenOf pd_0 rfl) rfl rfl (own_wr rfl rfl) (hb hby at_20)
  obtain ⟨rfl, N2q, e2⟩ := hQ2
  have N2 := Fr.app N0 N2q
  obtain ⟨T3, h3, X3, e3, E3, A3, D3, -, st3⟩ := newO X2 hx hZ hown (w0 hw) (w1 hw) (w2 hw) e2 (g := (mkF m 25 #[vi p0, vi p1, vi 0, vi 0, vr b1, .unset, .unset, .unset, .unset, .unset, .unset, .unset] [])) rfl (hb hby at_25) (by decide) (by decide)
  obtain ⟨b3, g3⟩ : ∃ z, z = h1.size := ⟨_, rfl⟩
  rw [← g3] at A3 D3 st3
  have ge_b3 : h1.size ≤ b3 := Nat.le_of_eq g3.symm
  have K3 := KL.ofE E3
  have F_b3_before : Fd1 Z h3 b3 .null := D3 (Or.inl (w29 hw)) (ty := (.object "java/lang/Object")) (by decide)
  have F_b3_after : Fd4 Z h3 b3 .null := D3 (Or.inl (w45 hw)) (ty := (.object "java/lang/Object")) (by decide)
  have sz_0_2 := (Nat.le_trans K1.1 K3.1)
  obtain ⟨_, T4, L4, X4, hQ4, st4⟩ := own_init X3 hx hZ rfl hown (w3 hw) (w4 hw) (w2 hw) (w5 hw) (by decide) (r_init l Z a0 hw [] b3 h3 n0 (Nat.le_trans Z0 sz_0_2)) e3 (W := 1) (by decide) (g := (mkF m 29 #[vi p0, vi p1, vi 0, vi 0, vr b1, .unset, .unset, .unset, .unset, .unset, .unset, .unset] [(.ref b3), (.ref b3)])) rfl (by rw [hml]; rfl) (argsL := []) (rest := [(.ref b3)]) (lenOf pd_0 rfl) rfl rfl (own_wr rfl rfl) (hb hby at_29)
  obtain ⟨rfl, N4q, e4⟩ := hQ4
  have N4 := Fr.app N2 N4q
  obtain ⟨T5, h5, X5, e5, E5, A5, D5, -, st5⟩ := newO X4 hx hZ hown (w0 hw) (w1 hw) (w2 hw) e4 (g := (mkF m 34 #[vi p0, vi p1, vi 0, vi 0, vr b1, vr b3, .unset, .unset, .unset, .unset, .unset, .unset] [])) rfl (hb hby at_34) (by decide) (by decide)
  obtain ⟨b5, g5⟩ : ∃ z, z = h3.size := ⟨_, rfl⟩
  rw [← g5] at A5 D5 st5
  have ge_b5 : h3.size ≤ b5 := Nat.le_of_eq g5.symm
  have K5 := KL.ofE E5
  have F_b5_before : Fd1 Z h5 b5 .null := D5 (Or.inl (w29 hw)) (ty := (.object "java/lang/Object")) (by decide)
  have F_b5_after : Fd4 Z h5 b5 .null := D5 (Or.inl (w45 hw)) (ty := (.object "java/lang/Object")) (by decide)
  have sz_0_3 := (Nat.le_trans sz_0_2 K5.1)
  obtain ⟨_, T6, L6, X6, hQ6, st6⟩ := own_init X5 hx hZ rfl hown (w3 hw) (w4 hw) (w2 hw) (w5 hw) (by decide) (r_init l Z a0 hw [] b5 h5 n0 (Nat.le_trans Z0 sz_0_3)) e5 (W := 1) (by decide) (g := (mkF m 38 #[vi p0, vi p1, vi 0, vi 0, vr b1, vr b3, .unset, .unset, .unset, .unset, .unset, .unset] [(.ref b5), (.ref b5)])) rfl (by rw [hml]; rfl) (argsL := []) (rest := [(.ref b5)]) (lenOf pd_0 rfl) rfl rfl (own_wr rfl rfl) (hb hby at_38)
  obtain ⟨rfl, N6q, e6⟩ := hQ6
  have N6 := Fr.app N4 N6q
  obtain ⟨T7, h7, X7, e7, E7, A7, D7, -, st7⟩ := newO X6 hx hZ hown (w0 hw) (w1 hw) (w2 hw) e6 (g := (mkF m 43 #[vi p0, vi p1, vi 0, vi 0, vr b1, vr b3, vr b5, .unset, .unset, .unset, .unset, .unset] [])) rfl (hb hby at_43) (by decide) (by decide)
  obtain ⟨b7, g7⟩ : ∃ z, z = h5.size := ⟨_, rfl⟩
  rw [← g7] at A7 D7 st7
  have ge_b7 : h5.size ≤ b7 := Nat.le_of_eq g7.symm
  have K7 := KL.ofE E7
  have F_b7_before : Fd1 Z h7 b7 .null := D7 (Or.inl (w29 hw)) (ty := (.object "java/lang/Object")) (by decide)
  have F_b7_after : Fd4 Z h7 b7 .null := D7 (Or.inl (w45 hw)) (ty := (.object "java/lang/Object")) (by decide)
  have sz_0_4 := (Nat.le_trans sz_0_3 K7.1)
  obtain ⟨_, T8, L8, X8, hQ8, st8⟩ := own_init X7 hx hZ rfl hown (w3 hw) (w4 hw) (w2 hw) (w5 hw) (by decide) (r_init l Z a0 hw [] b7 h7 n0 (Nat.le_trans Z0 sz_0_4)) e7 (W := 1) (by decide) (g := (mkF m 47 #[vi p0, vi p1, vi 0, vi 0, vr b1, vr b3, vr b5, .unset, .unset, .unset, .unset, .unset] [(.ref b7), (.ref b7)])) rfl (by rw [hml]; rfl) (argsL := []) (rest := [(.ref b7)]) (lenOf pd_0 rfl) rfl rfl (own_wr rfl rfl) (hb hby at_47)
  obtain ⟨rfl, N8q, e8⟩ := hQ8
  have N8 := Fr.app N6 N8q
  obtain ⟨T9, h9, X9, e9, E9, A9, D9, -, st9⟩ := newO X8 hx hZ hown (w14 hw) (w15 hw) (w16 hw) e8 (g := (mkF m 52 #[vi p0, vi p1, vi 0, vi 0, vr b1, vr b3, vr b5, vr b7, .unset, .unset, .unset, .unset] [])) rfl (hb hby at_52) (by decide) (by decide)
  obtain ⟨b9, g9⟩ : ∃ z, z = h7.size := ⟨_, rfl⟩
  rw [← g9] at A9 D9 st9
  have ge_b9 : h7.size ≤ b9 := Nat.le_of_eq g9.symm
  have K9 := KL.ofE E9
  have F_b9_last : Fd0 Z h9 b9 .null := D9 (Or.inl (w27 hw)) (ty := (.object "com/example/bourse/bourse/sim/InsertionOrder$Link")) (by decide)
  have F_b9_first : Fd2 Z h9 b9 .null := D9 (Or.inl (w31 hw)) (ty := (.object "com/example/bourse/bourse/sim/InsertionOrder$Link")) (by decide)
  have F_b9_size : Fd3 Z h9 b9 z0 := D9 (Or.inl (w33 hw)) (ty := .int) (by decide)
  have sz_0_5 := (Nat.le_trans sz_0_4 K9.1)
  obtain ⟨_, T10, L10, X10, hQ10, st10⟩ := own_init X9 hx hZ rfl hown (w17 hw) (w18 hw) (w16 hw) (w19 hw) (by decide) (r_oinit l Z a0 hw [] b9 h9 n0 (Nat.le_trans Z0 sz_0_5)) e9 (W := 1) (by decide) (g := (mkF m 56 #[vi p0, vi p1, vi 0, vi 0, vr b1, vr b3, vr b5, vr b7, .unset, .unset, .unset, .unset] [(.ref b9), (.ref b9)])) rfl (by rw [hml]; rfl) (argsL := []) (rest := [(.ref b9)]) (lenOf pd_0 rfl) rfl rfl (own_wr rfl rfl) (hb hby at_56)
  obtain ⟨rfl, N10q, e10⟩ := hQ10
  have N10 := Fr.app N8 N10q
  have f12 := (kFld K9 F_b7_before nw0)
  have f13 := (kExa K9 A7)
  have lt_b7 : b7 < h7.size := Exa.lt A7
  obtain ⟨_, T11, L11, X11, hQ11, st11⟩ := own_virtual X10 hx hZ hown (w21 hw) (w22 hw) (notFace_of_selects (args := #[]) (mvT hZ (w24 hw))) (w24 hw) (w23 hw) (w16 hw) (w25 hw) (by decide) (r_add0 l Z a0 hw [] b9 b7 .null .null (0 : Int32) h9 n0 (Nat.le_trans Z0 sz_0_5) F_b9_last f12 f13 (Nat.le_trans Z0 (Nat.le_trans sz_0_3 ge_b7)) (Ne.symm (lt_ne lt_b7 ge_b9)) F_b9_first A9 (Nat.le_trans Z0 (Nat.le_trans sz_0_4 ge_b9)) F_b9_size) e10 A9 (W := 0) (by decide) (g := (mkF m 146 #[vi p0, vi p1, vi 0, vi 0, vr b1, vr b3, vr b5, vr b7, vr b9, .val .null, vr b7, .unset] [(.ref b7), (.ref b9)])) rfl (by rw [hml]; rfl) (argsL := [(.ref b7)]) (rest := []) (lenOf pd_4 rfl) rfl rfl (own_wr rfl rfl) (hb hby at_146)
  obtain ⟨rfl, N11q, K11, Q11_0, Q11_1, Q11_2, Q11_3⟩ := hQ11
  have N11 := Fr.app N10 N11q
  have Q11_3' : Fd3 Z T11.heap b9 (.int 1) := Eq.mp (congrArg (fun z => Fd3 Z T11.heap b9 (Value.int z)) (by decide : ((0 : Int32) + (1 : Int32)) = (1 : Int32))) Q11_3
  have sz_0_6 := (Nat.le_trans sz_0_5 K11.1)
  have f15 := (kExa K11 A9)
  obtain ⟨_, T14, L14, X14, hQ14, st14⟩ := own_virtual X11 hx hZ hown (w34 hw) (w35 hw) (notFace_of_selects (args := #[]) (mvT hZ (w37 hw))) (w37 hw) (w36 hw) (w16 hw) (w38 hw) (by decide) (r_size l Z a0 hw [] b9 (1 : Int32) T11.heap n0 (Nat.le_trans Z0 sz_0_6) Q11_3') rfl f15 (W := 0) (by decide) (g := (mkF m 151 #[vi p0, vi p1, vi 0, vi 0, vr b1, vr b3, vr b5, vr b7, vr b9, .val .null, vr b7, .unset] [(.ref b9)])) rfl (by rw [hml]; rfl) (argsL := []) (rest := []) (lenOf pd_5 rfl) rfl rfl (own_wr rfl rfl) (hb hby at_151)
  obtain ⟨rfl, N14q, e14⟩ := hQ14
  have N14 := Fr.app N11 N14q
  have f17 := (kFld K11 (kFld K9 F_b7_after nw0) (nwS (Or.inr (sn_12 hw)) (nwM 3 rfl (lt_ne lt_b7 ge_b9) nw0)))
  obtain ⟨_, T16, L16, X16, hQ16, st16⟩ := own_virtual X14 hx hZ hown (w39 hw) (w40 hw) (notFace_of_selects (args := #[]) (mvT hZ (w42 hw))) (w42 hw) (w41 hw) (w16 hw) (w43 hw) (by decide) (r_after0 l Z a0 hw [] b9 b7 T11.heap n0 (Nat.le_trans Z0 sz_0_6) f17) e14 f15 (W := 0) (by decide) (g := (mkF m 176 #[vi p0, vi p1, vi 0, vi 0, vr b1, vr b3, vr b5, vr b7, vr b9, .val .null, vr b7, vi 1] [(.ref b7), (.ref b9)])) rfl (by rw [hml]; rfl) (argsL := [(.ref b7)]) (rest := []) (lenOf pd_2 rfl) rfl rfl (own_wr rfl rfl) (hb hby at_176)
  obtain ⟨rfl, N16q, e16⟩ := hQ16
  have N16 := Fr.app N14 N16q
  obtain ⟨_, T18, L18, X18, hQ18, st18⟩ := own_virtual X16 hx hZ hown (w46 hw) (w47 hw) (notFace_of_selects (args := #[]) (mvT hZ (w49 hw))) (w49 hw) (w48 hw) (w16 hw) (w50 hw) (by decide) (r_iter1 l Z a0 hw [] b9 b7 T11.heap n0 (Nat.le_trans Z0 sz_0_6) Q11_1) e16 f15 (W := 0) (by decide) (g := (mkF m 225 #[vi p0, vi p1, vi 0, vi 0, vr b1, vr b3, vr b5, vr b7, vr b9, .val .null, vr b7, vi 1] [(.ref b9)])) rfl (by rw [hml]; rfl) (argsL := []) (rest := []) (lenOf pd_6 rfl) rfl rfl (own_wr rfl rfl) (hb hby at_225)
  obtain ⟨b1_18, rfl, N18q, K18, Q18_0, Q18_1, Q18_2, Q18_3, Q18_4⟩ := hQ18
  have N18 := Fr.app N16 N18q
  have f21 := (kExa K18 f15)
  have f22 := (kFld K18 f17 nw0)
  have sz_4_6 := (Nat.le_trans K9.1 K11.1)
  have sz_0_7 := (Nat.le_trans sz_0_6 K18.1)
  obtain ⟨_, T20, L20, X20, hQ20, st20⟩ := own_face X18 hx hZ hown (w63 hw) (w64 hw) (mvT hZ (w65 hw)) (w66 hw) (w67 hw) (w68 hw) (w69 hw) (w70 hw) (w53 hw) (w71 hw) (by decide) (r_nextb0 l Z a0 hw [] b1_18 b7 .null b9 T18.heap n0 (Nat.le_trans Z0 sz_0_7) Q18_1 Q18_3 Q18_4 Q18_2 f21 f22 (Nat.le_trans Z0 (Nat.le_trans sz_0_6 Q18_0)) (Ne.symm (lt_ne (Nat.lt_of_lt_of_le lt_b7 sz_4_6) Q18_0))) rfl Q18_1 (W := 0) (by decide) (g := (mkF m 228 #[vi p0, vi p1, vi 0, vi 0, vr b1, vr b3, vr b5, vr b7, vr b9, .val .null, vr b7, vi 1] [(.ref b1_18)])) rfl (by rw [hml]; rfl) (argsL := []) (rest := []) (lenOf pd_7 rfl) rfl rfl (own_wr rfl rfl) (hb hby at_228)
  obtain ⟨rfl, N20q, K20, Q20_0, Q20_1⟩ := hQ20
  have N20 := Fr.app N18 N20q
  refine ⟨T20, _, some (.int 1), X20, (fun h => by cases h <;> rfl), ?_, fun fs hr => ?_⟩
  · show Q_law n0 _ _
    exact ⟨rfl, N20⟩
  · refine t_iloadN 1 X0.here hx (hb hby at_0) rfl rfl ?_
    refine t_iconst 2 (r := 3) X0.here hx (hb hby at_1) (by decide) rfl ?_
    refine t_iand 3 (r := 0) X0.here hx (hb hby at_2) hk rfl ?_
    refine t_istoreN (pc' := 4) (L' := #[vi p0, vi p1, vi 0, .unset, .unset, .unset, .unset, .unset, .unset, .unset, .unset, .unset]) X0.here hx (hb hby at_3) rfl rfl ?_
    refine t_iloadN 5 X0.here hx (hb hby at_4) rfl rfl ?_
    refine t_iconst 6 (r := 1) X0.here hx (hb hby at_5) (by decide) rfl ?_
    refine t_iand 7 (r := 0) X0.here hx (hb hby at_6) hm rfl ?_
    refine t_ifYes (pc := 7) 14 X0.here hx (hb hby at_7) (by decide) (by decide) (by decide) ?_
    refine t_iconst 15 (r := 0) X0.here hx (hb hby at_14) (by decide) rfl ?_
    refine t_istoreN (pc' := 16) (L' := #[vi p0, vi p1, vi 0, vi 0, .unset, .unset, .unset, .unset, .unset, .unset, .unset, .unset]) X0.here hx (hb hby at_15) rfl rfl ?_
    refine st1 _ ?_
    refine t_dup 20 X1.here hx (hb hby at_19) rfl rfl ?_
    refine st2 _ ?_
    refine t_astore (pc' := 25) (L' := #[vi p0, vi p1, vi 0, vi 0, vr b1, .unset, .unset, .unset, .unset, .unset, .unset, .unset]) X2.here hx (hb hby at_23) rfl rfl rfl ?_
    refine st3 _ ?_
    refine t_dup 29 X3.here hx (hb hby at_28) rfl rfl ?_
    refine st4 _ ?_
    refine t_astore (pc' := 34) (L' := #[vi p0, vi p1, vi 0, vi 0, vr b1, vr b3, .unset, .unset, .unset, .unset, .unset, .unset]) X4.here hx (hb hby at_32) rfl rfl rfl ?_
    refine st5 _ ?_
    refine t_dup 38 X5.here hx (hb hby at_37) rfl rfl ?_
    refine st6 _ ?_
    refine t_astore (pc' := 43) (L' := #[vi p0, vi p1, vi 0, vi 0, vr b1, vr b3, vr b5, .unset, .unset, .unset, .unset, .unset]) X6.here hx (hb hby at_41) rfl rfl rfl ?_
    refine st7 _ ?_
    refine t_dup 47 X7.here hx (hb hby at_46) rfl rfl ?_
    refine st8 _ ?_
    refine t_astore (pc' := 52) (L' := #[vi p0, vi p1, vi 0, vi 0, vr b1, vr b3, vr b5, vr b7, .unset, .unset, .unset, .unset]) X8.here hx (hb hby at_50) rfl rfl rfl ?_
    refine st9 _ ?_
    refine t_dup 56 X9.here hx (hb hby at_55) rfl rfl ?_
    refine st10 _ ?_
    refine t_astore (pc' := 61) (L' := #[vi p0, vi p1, vi 0, vi 0, vr b1, vr b3, vr b5, vr b7, vr b9, .unset, .unset, .unset]) X10.here hx (hb hby at_59) rfl rfl rfl ?_
    refine t_iloadN 62 X10.here hx (hb hby at_61) rfl rfl ?_
    refine t_iconst 63 (r := 1) X10.here hx (hb hby at_62) (by decide) rfl ?_
    refine t_icmpYes (pc := 63) 73 X10.here hx (hb hby at_63) (by decide) (by decide) (by decide) ?_
    refine t_iloadN 74 X10.here hx (hb hby at_73) rfl rfl ?_
    refine t_iconst 75 (r := 2) X10.here hx (hb hby at_74) (by decide) rfl ?_
    refine t_icmpYes (pc := 75) 85 X10.here hx (hb hby at_75) (by decide) (by decide) (by decide) ?_
    refine t_iloadN 86 X10.here hx (hb hby at_85) rfl rfl ?_
    refine t_iconst 87 (r := 3) X10.here hx (hb hby at_86) (by decide) rfl ?_
    refine t_icmpYes (pc := 87) 97 X10.here hx (hb hby at_87) (by decide) (by decide) (by decide) ?_
    refine t_iloadN 98 X10.here hx (hb hby at_97) rfl rfl ?_
    refine t_ifNo 101 X10.here hx (hb hby at_98) (by decide) rfl ?_
    refine t_aconst_null 102 X10.here hx (hb hby at_101) rfl ?_
    refine t_goto (pc := 102) 127 X10.here hx (hb hby at_102) (by decide) (by decide) ?_
    refine t_astore (pc' := 129) (L' := #[vi p0, vi p1, vi 0, vi 0, vr b1, vr b3, vr b5, vr b7, vr b9, .val .null, .unset, .unset]) X10.here hx (hb hby at_127) rfl rfl rfl ?_
    refine t_iloadN 130 X10.here hx (hb hby at_129) rfl rfl ?_
    refine t_ifNo 133 X10.here hx (hb hby at_130) (by decide) rfl ?_
    refine t_aload 135 X10.here hx (hb hby at_133) rfl rfl rfl ?_
    refine t_goto (pc := 135) 140 X10.here hx (hb hby at_135) (by decide) (by decide) ?_
    refine t_astore (pc' := 142) (L' := #[vi p0, vi p1, vi 0, vi 0, vr b1, vr b3, vr b5, vr b7, vr b9, .val .null, vr b7, .unset]) X10.here hx (hb hby at_140) rfl rfl rfl ?_
    refine t_aload 144 X10.here hx (hb hby at_142) rfl rfl rfl ?_
    refine t_aload 146 X10.here hx (hb hby at_144) rfl rfl rfl ?_
    refine st11 _ ?_
    refine t_aload 151 X11.here hx (hb hby at_149) rfl rfl rfl ?_
    refine st14 _ ?_
    refine t_iloadN 155 X14.here hx (hb hby at_154) rfl rfl ?_
    refine t_iconst 156 (r := 1) X14.here hx (hb hby at_155) (by decide) rfl ?_
    refine t_iadd 157 (r := 1) X14.here hx (hb hby at_156) (by decide : ((0 : Int32) + (1 : Int32)) = (1 : Int32)) rfl ?_
    refine t_icmpNo 160 X14.here hx (hb hby at_157) (by decide) rfl ?_
    refine t_iconst 161 (r := 1) X14.here hx (hb hby at_160) (by decide) rfl ?_
    refine t_goto (pc := 161) 165 X14.here hx (hb hby at_161) (by decide) (by decide) ?_
    refine t_istore (pc' := 167) (L' := #[vi p0, vi p1, vi 0, vi 0, vr b1, vr b3, vr b5, vr b7, vr b9, .val .null, vr b7, vi 1]) X14.here hx (hb hby at_165) rfl rfl ?_
    refine t_iload 169 X14.here hx (hb hby at_167) rfl rfl ?_
    refine t_ifNo 172 X14.here hx (hb hby at_169) (by decide) rfl ?_
    refine t_aload 174 X14.here hx (hb hby at_172) rfl rfl rfl ?_
    refine t_aload 176 X14.here hx (hb hby at_174) rfl rfl rfl ?_
    refine st16 _ ?_
    refine t_ifnonnullNo 182 X16.here hx (hb hby at_179) rfl ?_
    refine t_iconst 183 (r := 1) X16.here hx (hb hby at_182) (by decide) rfl ?_
    refine t_goto (pc := 183) 187 X16.here hx (hb hby at_183) (by decide) (by decide) ?_
    refine t_istore (pc' := 189) (L' := #[vi p0, vi p1, vi 0, vi 0, vr b1, vr b3, vr b5, vr b7, vr b9, .val .null, vr b7, vi 1]) X16.here hx (hb hby at_187) rfl rfl ?_
    refine t_iload 191 X16.here hx (hb hby at_189) rfl rfl ?_
    refine t_ifNo 194 X16.here hx (hb hby at_191) (by decide) rfl ?_
    refine t_aload 196 X16.here hx (hb hby at_194) rfl rfl rfl ?_
    refine t_ifnullYes (pc := 196) 211 X16.here hx (hb hby at_196) (by decide) (by decide) ?_
    refine t_iconst 212 (r := 1) X16.here hx (hb hby at_211) (by decide) rfl ?_
    refine t_goto (pc := 212) 216 X16.here hx (hb hby at_212) (by decide) (by decide) ?_
    refine t_istore (pc' := 218) (L' := #[vi p0, vi p1, vi 0, vi 0, vr b1, vr b3, vr b5, vr b7, vr b9, .val .null, vr b7, vi 1]) X16.here hx (hb hby at_216) rfl rfl ?_
    refine t_iload 220 X16.here hx (hb hby at_218) rfl rfl ?_
    refine t_ifNo 223 X16.here hx (hb hby at_220) (by decide) rfl ?_
    refine t_aload 225 X16.here hx (hb hby at_223) rfl rfl rfl ?_
    refine st18 _ ?_
    refine st20 _ ?_
    refine t_aload 235 X20.here hx (hb hby at_233) rfl rfl rfl ?_
    refine Jvm.RoadKit.acmp (g := (mkF m 235 #[vi p0, vi p1, vi 0, vi 0, vr b1, vr b3, vr b5, vr b7, vr b9, .val .null, vr b7, vi 1] [(.ref b7), (.ref b7)])) X20 hx rfl rfl rfl (pc0 := 235) (pc' := 238) (same := true) rfl (hb hby at_235) rfl (decide_eq_true rfl) (by decide) (by decide) ?_
    refine t_iconst 239 (r := 1) X20.here hx (hb hby at_238) (by decide) rfl ?_
    refine t_goto (pc := 239) 243 X20.here hx (hb hby at_239) (by decide) (by decide) ?_
    refine t_istore (pc' := 245) (L' := #[vi p0, vi p1, vi 0, vi 0, vr b1, vr b3, vr b5, vr b7, vr b9, .val .null, vr b7, vi 1]) X20.here hx (hb hby at_243) rfl rfl ?_
    refine t_iload 247 X20.here hx (hb hby at_245) rfl rfl ?_
    refine t_ifNo 250 X20.here hx (hb hby at_247) (by decide) rfl ?_
    refine t_iloadN 251 X20.here hx (hb hby at_250) rfl rfl ?_
    refine t_ifYes (pc := 251) 347 X20.here hx (hb hby at_251) (by decide) (by decide) (by decide) ?_
    refine t_iload 349 X20.here hx (hb hby at_347) rfl rfl ?_
    exact retN X20 hx (t := .boolean) hret (by simp) (hb hby at_349) hr
def w80 (hw : HW Z a0) := ow 80 hw rfl
def w83 (hw : HW Z a0) := ow 83 hw rfl
def w84 (hw : HW Z a0) := ow 84 hw rfl
def w81 (hw : HW Z a0) := ow 81 hw rfl
def w82 (hw : HW Z a0) := ow 82 hw rfl
def w85 (hw : HW Z a0) := ow 85 hw rfl
def w88 (hw : HW Z a0) := ow 88 hw rfl
def w92 (hw : HW Z a0) := ow 92 hw rfl
theorem pd_8 : parseMethodDescriptor "()Z" = some ⟨[], some .boolean⟩ := by decide +kernel
def w86 (hw : HW Z a0) := ow 86 hw rfl
def w87 (hw : HW Z a0) := ow 87 hw rfl
def w89 (hw : HW Z a0) := ow 89 hw rfl
def w90 (hw : HW Z a0) := ow 90 hw rfl
def w91 (hw : HW Z a0) := ow 91 hw rfl
theorem ef_law_0_1 (p0 p1 : Int32) (m : MethodId) : entryFrame m #[(.int p0), (.int p1)] maxLocals = mkF m 0 #[.val (.int p0), .val (.int p1), .unset, .unset, .unset, .unset, .unset, .unset, .unset, .unset, .unset, .unset] [] := by first | (simp [entryFrame, mkF, argsToLocals, Value.category, maxLocals]; done) | rfl
set_option maxRecDepth 65536 in
set_option maxHeartbeats 40000000 in
theorem law_0_1 (l : Launch) (Z : State) (a0 : Array Value) (hw : HW Z a0) (ws : List Jvm.Cond) (p0 p1 : Int32) (h0 : Heap) (n0 : Nat) (Z0 : n0 ≤ h0.size) (hk : p0 &&& (3 : Int32) = (0 : Int32)) (hm : p1 &&& (1 : Int32) = (1 : Int32)) :
    MetFree l x (head1 (Jvm.Cond.code x code maxLocals ret :: ws) room_1) (fun a U => a = #[(.int p0), (.int p1)] ∧ Z.Warmed39 U.vm ∧ U.heap = h0) (fun _ _ _ _ _ => True) (fun _ U o U' => ∃ v L, o = .returned v ∧ Q_law n0 v L ∧ FrameEnd U o U' L 24 128) := by
  refine own_law (y := x) (k := 7) (n := 17) (plainFor_of_name pn_InsertionOrderAddPinLaw273) (ef_law_0_1 p0 p1) (by decide) (by decide) ?_
  intro p e s m below meth c s₁ hx hby hml hown hnm hret hZ hh e0 X0
  have N0 := Fr.nil n0
  obtain ⟨T1, h1, X1, e1, E1, A1, D1, -, st1⟩ := newO X0 hx hZ hown (w0 hw) (w1 hw) (w2 hw) e0 (g := (mkF m 16 #[vi p0, vi p1, vi 0, vi 1, .unset, .unset, .unset, .unset, .unset, .unset, .unset, .unset] [])) rfl (hb hby at_16) (by decide) (by decide)
  obtain ⟨b1, g1⟩ : ∃ z, z = h0.size := ⟨_, rfl⟩
  rw [← g1] at A1 D1 st1
  have ge_b1 : h0.size ≤ b1 := Nat.le_of_eq g1.symm
  have K1 := KL.ofE E1
  have F_b1_before : Fd1 Z h1 b1 .null := D1 (Or.inl (w29 hw)) (ty := (.object "java/lang/Object")) (by decide)
  have F_b1_after : Fd4 Z h1 b1 .null := D1 (Or.inl (w45 hw)) (ty := (.object "java/lang/Object")) (by decide)
  obtain ⟨_, T2, L2, X2, hQ2, st2⟩ := own_init X1 hx hZ rfl hown (w3 hw) (w4 hw) (w2 hw) (w5 hw) (by decide) (r_init l Z a0 hw [] b1 h1 n0 (Nat.le_trans Z0 K1.1)) e1 (W := 1) (by decide) (g := (mkF m 20 #[vi p0, vi p1, vi 0, vi 1, .unset, .unset, .unset, .unset, .unset, .unset, .unset, .unset] [(.ref b1), (.ref b1)])) rfl (by rw [hml]; rfl) (argsL := []) (rest := [(.ref b1)]) (lenOf pd_0 rfl) rfl rfl (own_wr rfl rfl) (hb hby at_20)
  obtain ⟨rfl, N2q, e2⟩ := hQ2
  have N2 := Fr.app N0 N2q
  obtain ⟨T3, h3, X3, e3, E3, A3, D3, -, st3⟩ := newO X2 hx hZ hown (w0 hw) (w1 hw) (w2 hw) e2 (g := (mkF m 25 #[vi p0, vi p1, vi 0, vi 1, vr b1, .unset, .unset, .unset, .unset, .unset, .unset, .unset] [])) rfl (hb hby at_25) (by decide) (by decide)
  obtain ⟨b3, g3⟩ : ∃ z, z = h1.size := ⟨_, rfl⟩
  rw [← g3] at A3 D3 st3
  have ge_b3 : h1.size ≤ b3 := Nat.le_of_eq g3.symm
  have K3 := KL.ofE E3
  have F_b3_before : Fd1 Z h3 b3 .null := D3 (Or.inl (w29 hw)) (ty := (.object "java/lang/Object")) (by decide)
  have F_b3_after : Fd4 Z h3 b3 .null := D3 (Or.inl (w45 hw)) (ty := (.object "java/lang/Object")) (by decide)
  have sz_0_2 := (Nat.le_trans K1.1 K3.1)
  obtain ⟨_, T4, L4, X4, hQ4, st4⟩ := own_init X3 hx hZ rfl hown (w3 hw) (w4 hw) (w2 hw) (w5 hw) (by decide) (r_init l Z a0 hw [] b3 h3 n0 (Nat.le_trans Z0 sz_0_2)) e3 (W := 1) (by decide) (g := (mkF m 29 #[vi p0, vi p1, vi 0, vi 1, vr b1, .unset, .unset, .unset, .unset, .unset, .unset, .unset] [(.ref b3), (.ref b3)])) rfl (by rw [hml]; rfl) (argsL := []) (rest := [(.ref b3)]) (lenOf pd_0 rfl) rfl rfl (own_wr rfl rfl) (hb hby at_29)
  obtain ⟨rfl, N4q, e4⟩ := hQ4
  have N4 := Fr.app N2 N4q
  obtain ⟨T5, h5, X5, e5, E5, A5, D5, -, st5⟩ := newO X4 hx hZ hown (w0 hw) (w1 hw) (w2 hw) e4 (g := (mkF m 34 #[vi p0, vi p1, vi 0, vi 1, vr b1, vr b3, .unset, .unset, .unset, .unset, .unset, .unset] [])) rfl (hb hby at_34) (by decide) (by decide)
  obtain ⟨b5, g5⟩ : ∃ z, z = h3.size := ⟨_, rfl⟩
  rw [← g5] at A5 D5 st5
  have ge_b5 : h3.size ≤ b5 := Nat.le_of_eq g5.symm
  have K5 := KL.ofE E5
  have F_b5_before : Fd1 Z h5 b5 .null := D5 (Or.inl (w29 hw)) (ty := (.object "java/lang/Object")) (by decide)
  have F_b5_after : Fd4 Z h5 b5 .null := D5 (Or.inl (w45 hw)) (ty := (.object "java/lang/Object")) (by decide)
  have sz_0_3 := (Nat.le_trans sz_0_2 K5.1)
  obtain ⟨_, T6, L6, X6, hQ6, st6⟩ := own_init X5 hx hZ rfl hown (w3 hw) (w4 hw) (w2 hw) (w5 hw) (by decide) (r_init l Z a0 hw [] b5 h5 n0 (Nat.le_trans Z0 sz_0_3)) e5 (W := 1) (by decide) (g := (mkF m 38 #[vi p0, vi p1, vi 0, vi 1, vr b1, vr b3, .unset, .unset, .unset, .unset, .unset, .unset] [(.ref b5), (.ref b5)])) rfl (by rw [hml]; rfl) (argsL := []) (rest := [(.ref b5)]) (lenOf pd_0 rfl) rfl rfl (own_wr rfl rfl) (hb hby at_38)
  obtain ⟨rfl, N6q, e6⟩ := hQ6
  have N6 := Fr.app N4 N6q
  obtain ⟨T7, h7, X7, e7, E7, A7, D7, -, st7⟩ := newO X6 hx hZ hown (w0 hw) (w1 hw) (w2 hw) e6 (g := (mkF m 43 #[vi p0, vi p1, vi 0, vi 1, vr b1, vr b3, vr b5, .unset, .unset, .unset, .unset, .unset] [])) rfl (hb hby at_43) (by decide) (by decide)
  obtain ⟨b7, g7⟩ : ∃ z, z = h5.size := ⟨_, rfl⟩
  rw [← g7] at A7 D7 st7
  have ge_b7 : h5.size ≤ b7 := Nat.le_of_eq g7.symm
  have K7 := KL.ofE E7
  have F_b7_before : Fd1 Z h7 b7 .null := D7 (Or.inl (w29 hw)) (ty := (.object "java/lang/Object")) (by decide)
  have F_b7_after : Fd4 Z h7 b7 .null := D7 (Or.inl (w45 hw)) (ty := (.object "java/lang/Object")) (by decide)
  have sz_0_4 := (Nat.le_trans sz_0_3 K7.1)
  obtain ⟨_, T8, L8, X8, hQ8, st8⟩ := own_init X7 hx hZ rfl hown (w3 hw) (w4 hw) (w2 hw) (w5 hw) (by decide) (r_init l Z a0 hw [] b7 h7 n0 (Nat.le_trans Z0 sz_0_4)) e7 (W := 1) (by decide) (g := (mkF m 47 #[vi p0, vi p1, vi 0, vi 1, vr b1, vr b3, vr b5, .unset, .unset, .unset, .unset, .unset] [(.ref b7), (.ref b7)])) rfl (by rw [hml]; rfl) (argsL := []) (rest := [(.ref b7)]) (lenOf pd_0 rfl) rfl rfl (own_wr rfl rfl) (hb hby at_47)
  obtain ⟨rfl, N8q, e8⟩ := hQ8
  have N8 := Fr.app N6 N8q
  obtain ⟨T9, h9, X9, e9, E9, A9, D9, -, st9⟩ := newO X8 hx hZ hown (w14 hw) (w15 hw) (w16 hw) e8 (g := (mkF m 52 #[vi p0, vi p1, vi 0, vi 1, vr b1, vr b3, vr b5, vr b7, .unset, .unset, .unset, .unset] [])) rfl (hb hby at_52) (by decide) (by decide)
  obtain ⟨b9, g9⟩ : ∃ z, z = h7.size := ⟨_, rfl⟩
  rw [← g9] at A9 D9 st9
  have ge_b9 : h7.size ≤ b9 := Nat.le_of_eq g9.symm
  have K9 := KL.ofE E9
  have F_b9_last : Fd0 Z h9 b9 .null := D9 (Or.inl (w27 hw)) (ty := (.object "com/example/bourse/bourse/sim/InsertionOrder$Link")) (by decide)
  have F_b9_first : Fd2 Z h9 b9 .null := D9 (Or.inl (w31 hw)) (ty := (.object "com/example/bourse/bourse/sim/InsertionOrder$Link")) (by decide)
  have F_b9_size : Fd3 Z h9 b9 z0 := D9 (Or.inl (w33 hw)) (ty := .int) (by decide)
  have sz_0_5 := (Nat.le_trans sz_0_4 K9.1)
  obtain ⟨_, T10, L10, X10, hQ10, st10⟩ := own_init X9 hx hZ rfl hown (w17 hw) (w18 hw) (w16 hw) (w19 hw) (by decide) (r_oinit l Z a0 hw [] b9 h9 n0 (Nat.le_trans Z0 sz_0_5)) e9 (W := 1) (by decide) (g := (mkF m 56 #[vi p0, vi p1, vi 0, vi 1, vr b1, vr b3, vr b5, vr b7, .unset, .unset, .unset, .unset] [(.ref b9), (.ref b9)])) rfl (by rw [hml]; rfl) (argsL := []) (rest := [(.ref b9)]) (lenOf pd_0 rfl) rfl rfl (own_wr rfl rfl) (hb hby at_56)
  obtain ⟨rfl, N10q, e10⟩ := hQ10
  have N10 := Fr.app N8 N10q
  have f12 := (kFld K9 F_b7_before nw0)
  have f13 := (kExa K9 A7)
  have lt_b7 : b7 < h7.size := Exa.lt A7
  obtain ⟨_, T11, L11, X11, hQ11, st11⟩ := own_virtual X10 hx hZ hown (w21 hw) (w22 hw) (notFace_of_selects (args := #[]) (mvT hZ (w24 hw))) (w24 hw) (w23 hw) (w16 hw) (w25 hw) (by decide) (r_add0 l Z a0 hw [] b9 b7 .null .null (0 : Int32) h9 n0 (Nat.le_trans Z0 sz_0_5) F_b9_last f12 f13 (Nat.le_trans Z0 (Nat.le_trans sz_0_3 ge_b7)) (Ne.symm (lt_ne lt_b7 ge_b9)) F_b9_first A9 (Nat.le_trans Z0 (Nat.le_trans sz_0_4 ge_b9)) F_b9_size) e10 A9 (W := 0) (by decide) (g := (mkF m 146 #[vi p0, vi p1, vi 0, vi 1, vr b1, vr b3, vr b5, vr b7, vr b9, .val .null, vr b7, .unset] [(.ref b7), (.ref b9)])) rfl (by rw [hml]; rfl) (argsL := [(.ref b7)]) (rest := []) (lenOf pd_4 rfl) rfl rfl (own_wr rfl rfl) (hb hby at_146)
  obtain ⟨rfl, N11q, K11, Q11_0, Q11_1, Q11_2, Q11_3⟩ := hQ11
  have N11 := Fr.app N10 N11q
  have Q11_3' : Fd3 Z T11.heap b9 (.int 1) := Eq.mp (congrArg (fun z => Fd3 Z T11.heap b9 (Value.int z)) (by decide : ((0 : Int32) + (1 : Int32)) = (1 : Int32))) Q11_3
  have sz_0_6 := (Nat.le_trans sz_0_5 K11.1)
  have f15 := (kExa K11 A9)
  obtain ⟨_, T14, L14, X14, hQ14, st14⟩ := own_virtual X11 hx hZ hown (w34 hw) (w35 hw) (notFace_of_selects (args := #[]) (mvT hZ (w37 hw))) (w37 hw) (w36 hw) (w16 hw) (w38 hw) (by decide) (r_size l Z a0 hw [] b9 (1 : Int32) T11.heap n0 (Nat.le_trans Z0 sz_0_6) Q11_3') rfl f15 (W := 0) (by decide) (g := (mkF m 151 #[vi p0, vi p1, vi 0, vi 1, vr b1, vr b3, vr b5, vr b7, vr b9, .val .null, vr b7, .unset] [(.ref b9)])) rfl (by rw [hml]; rfl) (argsL := []) (rest := []) (lenOf pd_5 rfl) rfl rfl (own_wr rfl rfl) (hb hby at_151)
  obtain ⟨rfl, N14q, e14⟩ := hQ14
  have N14 := Fr.app N11 N14q
  have f17 := (kFld K11 (kFld K9 F_b7_after nw0) (nwS (Or.inr (sn_12 hw)) (nwM 3 rfl (lt_ne lt_b7 ge_b9) nw0)))
  obtain ⟨_, T16, L16, X16, hQ16, st16⟩ := own_virtual X14 hx hZ hown (w39 hw) (w40 hw) (notFace_of_selects (args := #[]) (mvT hZ (w42 hw))) (w42 hw) (w41 hw) (w16 hw) (w43 hw) (by decide) (r_after0 l Z a0 hw [] b9 b7 T11.heap n0 (Nat.le_trans Z0 sz_0_6) f17) e14 f15 (W := 0) (by decide) (g := (mkF m 176 #[vi p0, vi p1, vi 0, vi 1, vr b1, vr b3, vr b5, vr b7, vr b9, .val .null, vr b7, vi 1] [(.ref b7), (.ref b9)])) rfl (by rw [hml]; rfl) (argsL := [(.ref b7)]) (rest := []) (lenOf pd_2 rfl) rfl rfl (own_wr rfl rfl) (hb hby at_176)
  obtain ⟨rfl, N16q, e16⟩ := hQ16
  have N16 := Fr.app N14 N16q
  obtain ⟨_, T18, L18, X18, hQ18, st18⟩ := own_virtual X16 hx hZ hown (w46 hw) (w47 hw) (notFace_of_selects (args := #[]) (mvT hZ (w49 hw))) (w49 hw) (w48 hw) (w16 hw) (w50 hw) (by decide) (r_iter1 l Z a0 hw [] b9 b7 T11.heap n0 (Nat.le_trans Z0 sz_0_6) Q11_1) e16 f15 (W := 0) (by decide) (g := (mkF m 225 #[vi p0, vi p1, vi 0, vi 1, vr b1, vr b3, vr b5, vr b7, vr b9, .val .null, vr b7, vi 1] [(.ref b9)])) rfl (by rw [hml]; rfl) (argsL := []) (rest := []) (lenOf pd_6 rfl) rfl rfl (own_wr rfl rfl) (hb hby at_225)
  obtain ⟨b1_18, rfl, N18q, K18, Q18_0, Q18_1, Q18_2, Q18_3, Q18_4⟩ := hQ18
  have N18 := Fr.app N16 N18q
  have f21 := (kExa K18 f15)
  have f22 := (kFld K18 f17 nw0)
  have sz_4_6 := (Nat.le_trans K9.1 K11.1)
  have sz_0_7 := (Nat.le_trans sz_0_6 K18.1)
  obtain ⟨_, T20, L20, X20, hQ20, st20⟩ := own_face X18 hx hZ hown (w63 hw) (w64 hw) (mvT hZ (w65 hw)) (w66 hw) (w67 hw) (w68 hw) (w69 hw) (w70 hw) (w53 hw) (w71 hw) (by decide) (r_nextb0 l Z a0 hw [] b1_18 b7 .null b9 T18.heap n0 (Nat.le_trans Z0 sz_0_7) Q18_1 Q18_3 Q18_4 Q18_2 f21 f22 (Nat.le_trans Z0 (Nat.le_trans sz_0_6 Q18_0)) (Ne.symm (lt_ne (Nat.lt_of_lt_of_le lt_b7 sz_4_6) Q18_0))) rfl Q18_1 (W := 0) (by decide) (g := (mkF m 228 #[vi p0, vi p1, vi 0, vi 1, vr b1, vr b3, vr b5, vr b7, vr b9, .val .null, vr b7, vi 1] [(.ref b1_18)])) rfl (by rw [hml]; rfl) (argsL := []) (rest := []) (lenOf pd_7 rfl) rfl rfl (own_wr rfl rfl) (hb hby at_228)
  obtain ⟨rfl, N20q, K20, Q20_0, Q20_1⟩ := hQ20
  have N20 := Fr.app N18 N20q
  have f24 := (kFld K20 (kFld K18 Q11_0 nw0) (nwS (Or.inl (lt_ne (Nat.lt_of_lt_of_le lt_b7 sz_4_6) Q18_0)) (nwS (Or.inl (lt_ne (Nat.lt_of_lt_of_le lt_b7 sz_4_6) Q18_0)) nw0)))
  have f25 := (kFld K20 f22 (nwS (Or.inl (lt_ne (Nat.lt_of_lt_of_le lt_b7 sz_4_6) Q18_0)) (nwS (Or.inl (lt_ne (Nat.lt_of_lt_of_le lt_b7 sz_4_6) Q18_0)) nw0)))
  have lt_b9 : b9 < h9.size := Exa.lt A9
  have f26 := (kFld K20 (kFld K18 Q11_1 nw0) (nwS (Or.inl (lt_ne (Nat.lt_of_lt_of_le lt_b9 K11.1) Q18_0)) (nwS (Or.inl (lt_ne (Nat.lt_of_lt_of_le lt_b9 K11.1) Q18_0)) nw0)))
  have f27 := (kExa K20 f21)
  have f28 := (kFld K20 (kFld K18 Q11_2 nw0) (nwS (Or.inl (lt_ne (Nat.lt_of_lt_of_le lt_b9 K11.1) Q18_0)) (nwS (Or.inl (lt_ne (Nat.lt_of_lt_of_le lt_b9 K11.1) Q18_0)) nw0)))
  have f29 := (kExa K20 (kExa K18 (kExa K11 f13)))
  have f30 := (kFld K20 (kFld K18 Q11_3' nw0) (nwS (Or.inl (lt_ne (Nat.lt_of_lt_of_le lt_b9 K11.1) Q18_0)) (nwS (Or.inl (lt_ne (Nat.lt_of_lt_of_le lt_b9 K11.1) Q18_0)) nw0)))
  have sz_0_8 := (Nat.le_trans sz_0_7 K20.1)
  obtain ⟨_, T23, L23, X23, hQ23, st23⟩ := own_virtual X20 hx hZ hown (w80 hw) (w81 hw) (notFace_of_selects (args := #[]) (mvT hZ (w83 hw))) (w83 hw) (w82 hw) (w16 hw) (w84 hw) (by decide) (r_rem0 l Z a0 hw [] b9 b7 (.ref b7) (.ref b7) (1 : Int32) T20.heap n0 (Nat.le_trans Z0 sz_0_8) f24 f25 f26 f27 (Nat.le_trans Z0 (Nat.le_trans sz_0_4 ge_b9)) (Ne.symm (lt_ne lt_b7 ge_b9)) f28 f29 (Nat.le_trans Z0 (Nat.le_trans sz_0_3 ge_b7)) f30) rfl f27 (W := 0) (by decide) (g := (mkF m 258 #[vi p0, vi p1, vi 0, vi 1, vr b1, vr b3, vr b5, vr b7, vr b9, .val .null, vr b7, vi 1] [(.ref b7), (.ref b9)])) rfl (by rw [hml]; rfl) (argsL := [(.ref b7)]) (rest := []) (lenOf pd_4 rfl) rfl rfl (own_wr rfl rfl) (hb hby at_258)
  obtain ⟨rfl, N23q, K23, Q23_0, Q23_1, Q23_2, Q23_3, Q23_4⟩ := hQ23
  have N23 := Fr.app N20 N23q
  have Q23_4' : Fd3 Z T23.heap b9 z0 := Eq.mp (congrArg (fun z => Fd3 Z T23.heap b9 (Value.int z)) (by decide : ((1 : Int32) - (1 : Int32)) = (0 : Int32))) Q23_4
  have sz_0_9 := (Nat.le_trans sz_0_8 K23.1)
  have f32 := (kExa K23 f27)
  obtain ⟨_, T31, L31, X31, hQ31, st31⟩ := own_virtual X23 hx hZ hown (w34 hw) (w35 hw) (notFace_of_selects (args := #[]) (mvT hZ (w37 hw))) (w37 hw) (w36 hw) (w16 hw) (w38 hw) (by decide) (r_size l Z a0 hw [] b9 (0 : Int32) T23.heap n0 (Nat.le_trans Z0 sz_0_9) Q23_4') rfl f32 (W := 0) (by decide) (g := (mkF m 263 #[vi p0, vi p1, vi 0, vi 1, vr b1, vr b3, vr b5, vr b7, vr b9, .val .null, vr b7, vi 1] [(.ref b9)])) rfl (by rw [hml]; rfl) (argsL := []) (rest := []) (lenOf pd_5 rfl) rfl rfl (own_wr rfl rfl) (hb hby at_263)
  obtain ⟨rfl, N31q, e31⟩ := hQ31
  have N31 := Fr.app N23 N31q
  obtain ⟨_, T33, L33, X33, hQ33, st33⟩ := own_virtual X31 hx hZ hown (w46 hw) (w47 hw) (notFace_of_selects (args := #[]) (mvT hZ (w49 hw))) (w49 hw) (w48 hw) (w16 hw) (w50 hw) (by decide) (r_iter0 l Z a0 hw [] b9 T23.heap n0 (Nat.le_trans Z0 sz_0_9) Q23_0) e31 f32 (W := 0) (by decide) (g := (mkF m 289 #[vi p0, vi p1, vi 0, vi 1, vr b1, vr b3, vr b5, vr b7, vr b9, .val .null, vr b7, vi 1] [(.ref b9)])) rfl (by rw [hml]; rfl) (argsL := []) (rest := []) (lenOf pd_6 rfl) rfl rfl (own_wr rfl rfl) (hb hby at_289)
  obtain ⟨b1_33, rfl, N33q, K33, Q33_0, Q33_1, Q33_2, Q33_3, Q33_4⟩ := hQ33
  have N33 := Fr.app N31 N33q
  have sz_0_10 := (Nat.le_trans sz_0_9 K33.1)
  obtain ⟨_, T35, L35, X35, hQ35, st35⟩ := own_face X33 hx hZ hown (w85 hw) (w86 hw) (mvT hZ (w87 hw)) (w88 hw) (w89 hw) (w90 hw) (w91 hw) (w70 hw) (w53 hw) (w92 hw) (by decide) (r_has0 l Z a0 hw [] b1_33 T33.heap n0 (Nat.le_trans Z0 sz_0_10) Q33_3) rfl Q33_1 (W := 0) (by decide) (g := (mkF m 292 #[vi p0, vi p1, vi 0, vi 1, vr b1, vr b3, vr b5, vr b7, vr b9, .val .null, vr b7, vi 1] [(.ref b1_33)])) rfl (by rw [hml]; rfl) (argsL := []) (rest := []) (lenOf pd_8 rfl) rfl rfl (own_wr rfl rfl) (hb hby at_292)
  obtain ⟨rfl, N35q, e35⟩ := hQ35
  have N35 := Fr.app N33 N35q
  refine ⟨T35, _, some (.int 1), X35, (fun h => by cases h <;> rfl), ?_, fun fs hr => ?_⟩
  · show Q_law n0 _ _
    exact ⟨rfl, N35⟩
  · refine t_iloadN 1 X0.here hx (hb hby at_0) rfl rfl ?_
    refine t_iconst 2 (r := 3) X0.here hx (hb hby at_1) (by decide) rfl ?_
    refine t_iand 3 (r := 0) X0.here hx (hb hby at_2) hk rfl ?_
    refine t_istoreN (pc' := 4) (L' := #[vi p0, vi p1, vi 0, .unset, .unset, .unset, .unset, .unset, .unset, .unset, .unset, .unset]) X0.here hx (hb hby at_3) rfl rfl ?_
    refine t_iloadN 5 X0.here hx (hb hby at_4) rfl rfl ?_
    refine t_iconst 6 (r := 1) X0.here hx (hb hby at_5) (by decide) rfl ?_
    refine t_iand 7 (r := 1) X0.here hx (hb hby at_6) hm rfl ?_
    refine t_ifNo 10 X0.here hx (hb hby at_7) (by decide) rfl ?_
    refine t_iconst 11 (r := 1) X0.here hx (hb hby at_10) (by decide) rfl ?_
    refine t_goto (pc := 11) 15 X0.here hx (hb hby at_11) (by decide) (by decide) ?_
    refine t_istoreN (pc' := 16) (L' := #[vi p0, vi p1, vi 0, vi 1, .unset, .unset, .unset, .unset, .unset, .unset, .unset, .unset]) X0.here hx (hb hby at_15) rfl rfl ?_
    refine st1 _ ?_
    refine t_dup 20 X1.here hx (hb hby at_19) rfl rfl ?_
    refine st2 _ ?_
    refine t_astore (pc' := 25) (L' := #[vi p0, vi p1, vi 0, vi 1, vr b1, .unset, .unset, .unset, .unset, .unset, .unset, .unset]) X2.here hx (hb hby at_23) rfl rfl rfl ?_
    refine st3 _ ?_
    refine t_dup 29 X3.here hx (hb hby at_28) rfl rfl ?_
    refine st4 _ ?_
    refine t_astore (pc' := 34) (L' := #[vi p0, vi p1, vi 0, vi 1, vr b1, vr b3, .unset, .unset, .unset, .unset, .unset, .unset]) X4.here hx (hb hby at_32) rfl rfl rfl ?_
    refine st5 _ ?_
    refine t_dup 38 X5.here hx (hb hby at_37) rfl rfl ?_
    refine st6 _ ?_
    refine t_astore (pc' := 43) (L' := #[vi p0, vi p1, vi 0, vi 1, vr b1, vr b3, vr b5, .unset, .unset, .unset, .unset, .unset]) X6.here hx (hb hby at_41) rfl rfl rfl ?_
    refine st7 _ ?_
    refine t_dup 47 X7.here hx (hb hby at_46) rfl rfl ?_
    refine st8 _ ?_
    refine t_astore (pc' := 52) (L' := #[vi p0, vi p1, vi 0, vi 1, vr b1, vr b3, vr b5, vr b7, .unset, .unset, .unset, .unset]) X8.here hx (hb hby at_50) rfl rfl rfl ?_
    refine st9 _ ?_
    refine t_dup 56 X9.here hx (hb hby at_55) rfl rfl ?_
    refine st10 _ ?_
    refine t_astore (pc' := 61) (L' := #[vi p0, vi p1, vi 0, vi 1, vr b1, vr b3, vr b5, vr b7, vr b9, .unset, .unset, .unset]) X10.here hx (hb hby at_59) rfl rfl rfl ?_
    refine t_iloadN 62 X10.here hx (hb hby at_61) rfl rfl ?_
    refine t_iconst 63 (r := 1) X10.here hx (hb hby at_62) (by decide) rfl ?_
    refine t_icmpYes (pc := 63) 73 X10.here hx (hb hby at_63) (by decide) (by decide) (by decide) ?_
    refine t_iloadN 74 X10.here hx (hb hby at_73) rfl rfl ?_
    refine t_iconst 75 (r := 2) X10.here hx (hb hby at_74) (by decide) rfl ?_
    refine t_icmpYes (pc := 75) 85 X10.here hx (hb hby at_75) (by decide) (by decide) (by decide) ?_
    refine t_iloadN 86 X10.here hx (hb hby at_85) rfl rfl ?_
    refine t_iconst 87 (r := 3) X10.here hx (hb hby at_86) (by decide) rfl ?_
    refine t_icmpYes (pc := 87) 97 X10.here hx (hb hby at_87) (by decide) (by decide) (by decide) ?_
    refine t_iloadN 98 X10.here hx (hb hby at_97) rfl rfl ?_
    refine t_ifNo 101 X10.here hx (hb hby at_98) (by decide) rfl ?_
    refine t_aconst_null 102 X10.here hx (hb hby at_101) rfl ?_
    refine t_goto (pc := 102) 127 X10.here hx (hb hby at_102) (by decide) (by decide) ?_
    refine t_astore (pc' := 129) (L' := #[vi p0, vi p1, vi 0, vi 1, vr b1, vr b3, vr b5, vr b7, vr b9, .val .null, .unset, .unset]) X10.here hx (hb hby at_127) rfl rfl rfl ?_
    refine t_iloadN 130 X10.here hx (hb hby at_129) rfl rfl ?_
    refine t_ifNo 133 X10.here hx (hb hby at_130) (by decide) rfl ?_
    refine t_aload 135 X10.here hx (hb hby at_133) rfl rfl rfl ?_
    refine t_goto (pc := 135) 140 X10.here hx (hb hby at_135) (by decide) (by decide) ?_
    refine t_astore (pc' := 142) (L' := #[vi p0, vi p1, vi 0, vi 1, vr b1, vr b3, vr b5, vr b7, vr b9, .val .null, vr b7, .unset]) X10.here hx (hb hby at_140) rfl rfl rfl ?_
    refine t_aload 144 X10.here hx (hb hby at_142) rfl rfl rfl ?_
    refine t_aload 146 X10.here hx (hb hby at_144) rfl rfl rfl ?_
    refine st11 _ ?_
    refine t_aload 151 X11.here hx (hb hby at_149) rfl rfl rfl ?_
    refine st14 _ ?_
    refine t_iloadN 155 X14.here hx (hb hby at_154) rfl rfl ?_
    refine t_iconst 156 (r := 1) X14.here hx (hb hby at_155) (by decide) rfl ?_
    refine t_iadd 157 (r := 1) X14.here hx (hb hby at_156) (by decide : ((0 : Int32) + (1 : Int32)) = (1 : Int32)) rfl ?_
    refine t_icmpNo 160 X14.here hx (hb hby at_157) (by decide) rfl ?_
    refine t_iconst 161 (r := 1) X14.here hx (hb hby at_160) (by decide) rfl ?_
    refine t_goto (pc := 161) 165 X14.here hx (hb hby at_161) (by decide) (by decide) ?_
    refine t_istore (pc' := 167) (L' := #[vi p0, vi p1, vi 0, vi 1, vr b1, vr b3, vr b5, vr b7, vr b9, .val .null, vr b7, vi 1]) X14.here hx (hb hby at_165) rfl rfl ?_
    refine t_iload 169 X14.here hx (hb hby at_167) rfl rfl ?_
    refine t_ifNo 172 X14.here hx (hb hby at_169) (by decide) rfl ?_
    refine t_aload 174 X14.here hx (hb hby at_172) rfl rfl rfl ?_
    refine t_aload 176 X14.here hx (hb hby at_174) rfl rfl rfl ?_
    refine st16 _ ?_
    refine t_ifnonnullNo 182 X16.here hx (hb hby at_179) rfl ?_
    refine t_iconst 183 (r := 1) X16.here hx (hb hby at_182) (by decide) rfl ?_
    refine t_goto (pc := 183) 187 X16.here hx (hb hby at_183) (by decide) (by decide) ?_
    refine t_istore (pc' := 189) (L' := #[vi p0, vi p1, vi 0, vi 1, vr b1, vr b3, vr b5, vr b7, vr b9, .val .null, vr b7, vi 1]) X16.here hx (hb hby at_187) rfl rfl ?_
    refine t_iload 191 X16.here hx (hb hby at_189) rfl rfl ?_
    refine t_ifNo 194 X16.here hx (hb hby at_191) (by decide) rfl ?_
    refine t_aload 196 X16.here hx (hb hby at_194) rfl rfl rfl ?_
    refine t_ifnullYes (pc := 196) 211 X16.here hx (hb hby at_196) (by decide) (by decide) ?_
    refine t_iconst 212 (r := 1) X16.here hx (hb hby at_211) (by decide) rfl ?_
    refine t_goto (pc := 212) 216 X16.here hx (hb hby at_212) (by decide) (by decide) ?_
    refine t_istore (pc' := 218) (L' := #[vi p0, vi p1, vi 0, vi 1, vr b1, vr b3, vr b5, vr b7, vr b9, .val .null, vr b7, vi 1]) X16.here hx (hb hby at_216) rfl rfl ?_
    refine t_iload 220 X16.here hx (hb hby at_218) rfl rfl ?_
    refine t_ifNo 223 X16.here hx (hb hby at_220) (by decide) rfl ?_
    refine t_aload 225 X16.here hx (hb hby at_223) rfl rfl rfl ?_
    refine st18 _ ?_
    refine st20 _ ?_
    refine t_aload 235 X20.here hx (hb hby at_233) rfl rfl rfl ?_
    refine Jvm.RoadKit.acmp (g := (mkF m 235 #[vi p0, vi p1, vi 0, vi 1, vr b1, vr b3, vr b5, vr b7, vr b9, .val .null, vr b7, vi 1] [(.ref b7), (.ref b7)])) X20 hx rfl rfl rfl (pc0 := 235) (pc' := 238) (same := true) rfl (hb hby at_235) rfl (decide_eq_true rfl) (by decide) (by decide) ?_
    refine t_iconst 239 (r := 1) X20.here hx (hb hby at_238) (by decide) rfl ?_
    refine t_goto (pc := 239) 243 X20.here hx (hb hby at_239) (by decide) (by decide) ?_
    refine t_istore (pc' := 245) (L' := #[vi p0, vi p1, vi 0, vi 1, vr b1, vr b3, vr b5, vr b7, vr b9, .val .null, vr b7, vi 1]) X20.here hx (hb hby at_243) rfl rfl ?_
    refine t_iload 247 X20.here hx (hb hby at_245) rfl rfl ?_
    refine t_ifNo 250 X20.here hx (hb hby at_247) (by decide) rfl ?_
    refine t_iloadN 251 X20.here hx (hb hby at_250) rfl rfl ?_
    refine t_ifNo 254 X20.here hx (hb hby at_251) (by decide) rfl ?_
    refine t_aload 256 X20.here hx (hb hby at_254) rfl rfl rfl ?_
    refine t_aload 258 X20.here hx (hb hby at_256) rfl rfl rfl ?_
    refine st23 _ ?_
    refine t_aload 263 X23.here hx (hb hby at_261) rfl rfl rfl ?_
    refine st31 _ ?_
    refine t_iloadN 267 X31.here hx (hb hby at_266) rfl rfl ?_
    refine t_icmpNo 270 X31.here hx (hb hby at_267) (by decide) rfl ?_
    refine t_iconst 271 (r := 1) X31.here hx (hb hby at_270) (by decide) rfl ?_
    refine t_goto (pc := 271) 275 X31.here hx (hb hby at_271) (by decide) (by decide) ?_
    refine t_istore (pc' := 277) (L' := #[vi p0, vi p1, vi 0, vi 1, vr b1, vr b3, vr b5, vr b7, vr b9, .val .null, vr b7, vi 1]) X31.here hx (hb hby at_275) rfl rfl ?_
    refine t_aload 279 X31.here hx (hb hby at_277) rfl rfl rfl ?_
    refine t_ifnonnullNo 282 X31.here hx (hb hby at_279) rfl ?_
    refine t_iload 284 X31.here hx (hb hby at_282) rfl rfl ?_
    refine t_ifNo 287 X31.here hx (hb hby at_284) (by decide) rfl ?_
    refine t_aload 289 X31.here hx (hb hby at_287) rfl rfl rfl ?_
    refine st33 _ ?_
    refine st35 _ ?_
    refine t_ifNo 300 X35.here hx (hb hby at_297) (by decide) rfl ?_
    refine t_iconst 301 (r := 1) X35.here hx (hb hby at_300) (by decide) rfl ?_
    refine t_goto (pc := 301) 305 X35.here hx (hb hby at_301) (by decide) (by decide) ?_
    refine t_istore (pc' := 307) (L' := #[vi p0, vi p1, vi 0, vi 1, vr b1, vr b3, vr b5, vr b7, vr b9, .val .null, vr b7, vi 1]) X35.here hx (hb hby at_305) rfl rfl ?_
    refine t_goto (pc := 307) 347 X35.here hx (hb hby at_307) (by decide) (by decide) ?_
    refine t_iload 349 X35.here hx (hb hby at_347) rfl rfl ?_
    exact retN X35 hx (t := .boolean) hret (by simp) (hb hby at_349) hr
theorem ef_law_1_0 (p0 p1 : Int32) (m : MethodId) : entryFrame m #[(.int p0), (.int p1)] maxLocals = mkF m 0 #[.val (.int p0), .val (.int p1), .unset, .unset, .unset, .unset, .unset, .unset, .unset, .unset, .unset, .unset] [] := by first | (simp [entryFrame, mkF, argsToLocals, Value.category, maxLocals]; done) | rfl
set_option maxRecDepth 65536 in
set_option maxHeartbeats 40000000 in
theorem law_1_0 (l : Launch) (Z : State) (a0 : Array Value) (hw : HW Z a0) (ws : List Jvm.Cond) (p0 p1 : Int32) (h0 : Heap) (n0 : Nat) (Z0 : n0 ≤ h0.size) (hk : p0 &&& (3 : Int32) = (1 : Int32)) (hm : p1 &&& (1 : Int32) = (0 : Int32)) :
    MetFree l x (head1 (Jvm.Cond.code x code maxLocals ret :: ws) room_1) (fun a U => a = #[(.int p0), (.int p1)] ∧ Z.Warmed39 U.vm ∧ U.heap = h0) (fun _ _ _ _ _ => True) (fun _ U o U' => ∃ v L, o = .returned v ∧ Q_law n0 v L ∧ FrameEnd U o U' L 24 128) := by
  refine own_law (y := x) (k := 6) (n := 14) (plainFor_of_name pn_InsertionOrderAddPinLaw273) (ef_law_1_0 p0 p1) (by decide) (by decide) ?_
  intro p e s m below meth c s₁ hx hby hml hown hnm hret hZ hh e0 X0
  have N0 := Fr.nil n0
  obtain ⟨T1, h1, X1, e1, E1, A1, D1, -, st1⟩ := newO X0 hx hZ hown (w0 hw) (w1 hw) (w2 hw) e0 (g := (mkF m 16 #[vi p0, vi p1, vi 1, vi 0, .unset, .unset, .unset, .unset, .unset, .unset, .unset, .unset] [])) rfl (hb hby at_16) (by decide) (by decide)
  obtain ⟨b1, g1⟩ : ∃ z, z = h0.size := ⟨_, rfl⟩
  rw [← g1] at A1 D1 st1
  have ge_b1 : h0.size ≤ b1 := Nat.le_of_eq g1.symm
  have K1 := KL.ofE E1
  have F_b1_before : Fd1 Z h1 b1 .null := D1 (Or.inl (w29 hw)) (ty := (.object "java/lang/Object")) (by decide)
  have F_b1_after : Fd4 Z h1 b1 .null := D1 (Or.inl (w45 hw)) (ty := (.object "java/lang/Object")) (by decide)
  obtain ⟨_, T2, L2, X2, hQ2, st2⟩ := own_init X1 hx hZ rfl hown (w3 hw) (w4 hw) (w2 hw) (w5 hw) (by decide) (r_init l Z a0 hw [] b1 h1 n0 (Nat.le_trans Z0 K1.1)) e1 (W := 1) (by decide) (g := (mkF m 20 #[vi p0, vi p1, vi 1, vi 0, .unset, .unset, .unset, .unset, .unset, .unset, .unset, .unset] [(.ref b1), (.ref b1)])) rfl (by rw [hml]; rfl) (argsL := []) (rest := [(.ref b1)]) (lenOf pd_0 rfl) rfl rfl (own_wr rfl rfl) (hb hby at_20)
  obtain ⟨rfl, N2q, e2⟩ := hQ2
  have N2 := Fr.app N0 N2q
  obtain ⟨T3, h3, X3, e3, E3, A3, D3, -, st3⟩ := newO X2 hx hZ hown (w0 hw) (w1 hw) (w2 hw) e2 (g := (mkF m 25 #[vi p0, vi p1, vi 1, vi 0, vr b1, .unset, .unset, .unset, .unset, .unset, .unset, .unset] [])) rfl (hb hby at_25) (by decide) (by decide)
  obtain ⟨b3, g3⟩ : ∃ z, z = h1.size := ⟨_, rfl⟩
  rw [← g3] at A3 D3 st3
  have ge_b3 : h1.size ≤ b3 := Nat.le_of_eq g3.symm
  have K3 := KL.ofE E3
  have F_b3_before : Fd1 Z h3 b3 .null := D3 (Or.inl (w29 hw)) (ty := (.object "java/lang/Object")) (by decide)
  have F_b3_after : Fd4 Z h3 b3 .null := D3 (Or.inl (w45 hw)) (ty := (.object "java/lang/Object")) (by decide)
  have sz_0_2 := (Nat.le_trans K1.1 K3.1)
  obtain ⟨_, T4, L4, X4, hQ4, st4⟩ := own_init X3 hx hZ rfl hown (w3 hw) (w4 hw) (w2 hw) (w5 hw) (by decide) (r_init l Z a0 hw [] b3 h3 n0 (Nat.le_trans Z0 sz_0_2)) e3 (W := 1) (by decide) (g := (mkF m 29 #[vi p0, vi p1, vi 1, vi 0, vr b1, .unset, .unset, .unset, .unset, .unset, .unset, .unset] [(.ref b3), (.ref b3)])) rfl (by rw [hml]; rfl) (argsL := []) (rest := [(.ref b3)]) (lenOf pd_0 rfl) rfl rfl (own_wr rfl rfl) (hb hby at_29)
  obtain ⟨rfl, N4q, e4⟩ := hQ4
  have N4 := Fr.app N2 N4q
  obtain ⟨T5, h5, X5, e5, E5, A5, D5, -, st5⟩ := newO X4 hx hZ hown (w0 hw) (w1 hw) (w2 hw) e4 (g := (mkF m 34 #[vi p0, vi p1, vi 1, vi 0, vr b1, vr b3, .unset, .unset, .unset, .unset, .unset, .unset] [])) rfl (hb hby at_34) (by decide) (by decide)
  obtain ⟨b5, g5⟩ : ∃ z, z = h3.size := ⟨_, rfl⟩
  rw [← g5] at A5 D5 st5
  have ge_b5 : h3.size ≤ b5 := Nat.le_of_eq g5.symm
  have K5 := KL.ofE E5
  have F_b5_before : Fd1 Z h5 b5 .null := D5 (Or.inl (w29 hw)) (ty := (.object "java/lang/Object")) (by decide)
  have F_b5_after : Fd4 Z h5 b5 .null := D5 (Or.inl (w45 hw)) (ty := (.object "java/lang/Object")) (by decide)
  have sz_0_3 := (Nat.le_trans sz_0_2 K5.1)
  obtain ⟨_, T6, L6, X6, hQ6, st6⟩ := own_init X5 hx hZ rfl hown (w3 hw) (w4 hw) (w2 hw) (w5 hw) (by decide) (r_init l Z a0 hw [] b5 h5 n0 (Nat.le_trans Z0 sz_0_3)) e5 (W := 1) (by decide) (g := (mkF m 38 #[vi p0, vi p1, vi 1, vi 0, vr b1, vr b3, .unset, .unset, .unset, .unset, .unset, .unset] [(.ref b5), (.ref b5)])) rfl (by rw [hml]; rfl) (argsL := []) (rest := [(.ref b5)]) (lenOf pd_0 rfl) rfl rfl (own_wr rfl rfl) (hb hby at_38)
  obtain ⟨rfl, N6q, e6⟩ := hQ6
  have N6 := Fr.app N4 N6q
  obtain ⟨T7, h7, X7, e7, E7, A7, D7, -, st7⟩ := newO X6 hx hZ hown (w0 hw) (w1 hw) (w2 hw) e6 (g := (mkF m 43 #[vi p0, vi p1, vi 1, vi 0, vr b1, vr b3, vr b5, .unset, .unset, .unset, .unset, .unset] [])) rfl (hb hby at_43) (by decide) (by decide)
  obtain ⟨b7, g7⟩ : ∃ z, z = h5.size := ⟨_, rfl⟩
  rw [← g7] at A7 D7 st7
  have ge_b7 : h5.size ≤ b7 := Nat.le_of_eq g7.symm
  have K7 := KL.ofE E7
  have F_b7_before : Fd1 Z h7 b7 .null := D7 (Or.inl (w29 hw)) (ty := (.object "java/lang/Object")) (by decide)
  have F_b7_after : Fd4 Z h7 b7 .null := D7 (Or.inl (w45 hw)) (ty := (.object "java/lang/Object")) (by decide)
  have sz_0_4 := (Nat.le_trans sz_0_3 K7.1)
  obtain ⟨_, T8, L8, X8, hQ8, st8⟩ := own_init X7 hx hZ rfl hown (w3 hw) (w4 hw) (w2 hw) (w5 hw) (by decide) (r_init l Z a0 hw [] b7 h7 n0 (Nat.le_trans Z0 sz_0_4)) e7 (W := 1) (by decide) (g := (mkF m 47 #[vi p0, vi p1, vi 1, vi 0, vr b1, vr b3, vr b5, .unset, .unset, .unset, .unset, .unset] [(.ref b7), (.ref b7)])) rfl (by rw [hml]; rfl) (argsL := []) (rest := [(.ref b7)]) (lenOf pd_0 rfl) rfl rfl (own_wr rfl rfl) (hb hby at_47)
  obtain ⟨rfl, N8q, e8⟩ := hQ8
  have N8 := Fr.app N6 N8q
  obtain ⟨T9, h9, X9, e9, E9, A9, D9, -, st9⟩ := newO X8 hx hZ hown (w14 hw) (w15 hw) (w16 hw) e8 (g := (mkF m 52 #[vi p0, vi p1, vi 1, vi 0, vr b1, vr b3, vr b5, vr b7, .unset, .unset, .unset, .unset] [])) rfl (hb hby at_52) (by decide) (by decide)
  obtain ⟨b9, g9⟩ : ∃ z, z = h7.size := ⟨_, rfl⟩
  rw [← g9] at A9 D9 st9
  have ge_b9 : h7.size ≤ b9 := Nat.le_of_eq g9.symm
  have K9 := KL.ofE E9
  have F_b9_last : Fd0 Z h9 b9 .null := D9 (Or.inl (w27 hw)) (ty := (.object "com/example/bourse/bourse/sim/InsertionOrder$Link")) (by decide)
  have F_b9_first : Fd2 Z h9 b9 .null := D9 (Or.inl (w31 hw)) (ty := (.object "com/example/bourse/bourse/sim/InsertionOrder$Link")) (by decide)
  have F_b9_size : Fd3 Z h9 b9 z0 := D9 (Or.inl (w33 hw)) (ty := .int) (by decide)
  have sz_0_5 := (Nat.le_trans sz_0_4 K9.1)
  obtain ⟨_, T10, L10, X10, hQ10, st10⟩ := own_init X9 hx hZ rfl hown (w17 hw) (w18 hw) (w16 hw) (w19 hw) (by decide) (r_oinit l Z a0 hw [] b9 h9 n0 (Nat.le_trans Z0 sz_0_5)) e9 (W := 1) (by decide) (g := (mkF m 56 #[vi p0, vi p1, vi 1, vi 0, vr b1, vr b3, vr b5, vr b7, .unset, .unset, .unset, .unset] [(.ref b9), (.ref b9)])) rfl (by rw [hml]; rfl) (argsL := []) (rest := [(.ref b9)]) (lenOf pd_0 rfl) rfl rfl (own_wr rfl rfl) (hb hby at_56)
  obtain ⟨rfl, N10q, e10⟩ := hQ10
  have N10 := Fr.app N8 N10q
  have f12 := (kFld K9 (kFld K7 (kFld K5 (kFld K3 F_b1_before nw0) nw0) nw0) nw0)
  have f13 := (kExa K9 (kExa K7 (kExa K5 (kExa K3 A1))))
  have lt_b1 : b1 < h1.size := Exa.lt A1
  have sz_1_3 := (Nat.le_trans K3.1 K5.1)
  have sz_1_4 := (Nat.le_trans sz_1_3 K7.1)
  obtain ⟨_, T11, L11, X11, hQ11, st11⟩ := own_virtual X10 hx hZ hown (w21 hw) (w22 hw) (notFace_of_selects (args := #[]) (mvT hZ (w24 hw))) (w24 hw) (w23 hw) (w16 hw) (w25 hw) (by decide) (r_add0 l Z a0 hw [] b9 b1 .null .null (0 : Int32) h9 n0 (Nat.le_trans Z0 sz_0_5) F_b9_last f12 f13 (Nat.le_trans Z0 (Nat.le_trans (Nat.le_refl _) ge_b1)) (Ne.symm (lt_ne (Nat.lt_of_lt_of_le lt_b1 sz_1_4) ge_b9)) F_b9_first A9 (Nat.le_trans Z0 (Nat.le_trans sz_0_4 ge_b9)) F_b9_size) e10 A9 (W := 0) (by decide) (g := (mkF m 70 #[vi p0, vi p1, vi 1, vi 0, vr b1, vr b3, vr b5, vr b7, vr b9, .unset, .unset, .unset] [(.ref b1), (.ref b9)])) rfl (by rw [hml]; rfl) (argsL := [(.ref b1)]) (rest := []) (lenOf pd_4 rfl) rfl rfl (own_wr rfl rfl) (hb hby at_70)
  obtain ⟨rfl, N11q, K11, Q11_0, Q11_1, Q11_2, Q11_3⟩ := hQ11
  have N11 := Fr.app N10 N11q
  have Q11_3' : Fd3 Z T11.heap b9 (.int 1) := Eq.mp (congrArg (fun z => Fd3 Z T11.heap b9 (Value.int z)) (by decide : ((0 : Int32) + (1 : Int32)) = (1 : Int32))) Q11_3
  have lt_b7 : b7 < h7.size := Exa.lt A7
  have f15 := (kFld K11 (kFld K9 F_b7_before nw0) (nwS (Or.inl (Ne.symm (lt_ne (Nat.lt_of_lt_of_le lt_b1 sz_1_3) ge_b7))) (nwM 3 rfl (lt_ne lt_b7 ge_b9) nw0)))
  have f16 := (kExa K11 (kExa K9 A7))
  have f17 := (kFld K11 (kFld K9 (kFld K7 (kFld K5 (kFld K3 F_b1_after nw0) nw0) nw0) nw0) (nwS (Or.inr (sn_12 hw)) (nwM 3 rfl (lt_ne (Nat.lt_of_lt_of_le lt_b1 sz_1_4) ge_b9) nw0)))
  have f18 := (kExa K11 f13)
  have f19 := (kExa K11 A9)
  have sz_0_6 := (Nat.le_trans sz_0_5 K11.1)
  obtain ⟨_, T14, L14, X14, hQ14, st14⟩ := own_virtual X11 hx hZ hown (w21 hw) (w22 hw) (notFace_of_selects (args := #[]) (mvT hZ (w24 hw))) (w24 hw) (w23 hw) (w16 hw) (w25 hw) (by decide) (r_add1 l Z a0 hw [] b9 b7 b1 .null .null (1 : Int32) T11.heap n0 (Nat.le_trans Z0 sz_0_6) Q11_2 f15 f16 (Nat.le_trans Z0 (Nat.le_trans sz_0_3 ge_b7)) (Ne.symm (lt_ne lt_b7 ge_b9)) f17 (Ne.symm (lt_ne (Nat.lt_of_lt_of_le lt_b1 sz_1_3) ge_b7)) f18 (Nat.le_trans Z0 (Nat.le_trans (Nat.le_refl _) ge_b1)) (Ne.symm (lt_ne (Nat.lt_of_lt_of_le lt_b1 sz_1_4) ge_b9)) f19 (Nat.le_trans Z0 (Nat.le_trans sz_0_4 ge_b9)) Q11_3') rfl f19 (W := 0) (by decide) (g := (mkF m 146 #[vi p0, vi p1, vi 1, vi 0, vr b1, vr b3, vr b5, vr b7, vr b9, vr b1, vr b1, .unset] [(.ref b7), (.ref b9)])) rfl (by rw [hml]; rfl) (argsL := [(.ref b7)]) (rest := []) (lenOf pd_4 rfl) rfl rfl (own_wr rfl rfl) (hb hby at_146)
  obtain ⟨rfl, N14q, K14, Q14_0, Q14_1, Q14_2, Q14_3⟩ := hQ14
  have N14 := Fr.app N11 N14q
  have Q14_3' : Fd3 Z T14.heap b9 (.int 2) := Eq.mp (congrArg (fun z => Fd3 Z T14.heap b9 (Value.int z)) (by decide : ((1 : Int32) + (1 : Int32)) = (2 : Int32))) Q14_3
  have sz_0_7 := (Nat.le_trans sz_0_6 K14.1)
  have f21 := (kExa K14 f19)
  obtain ⟨_, T20, L20, X20, hQ20, st20⟩ := own_virtual X14 hx hZ hown (w34 hw) (w35 hw) (notFace_of_selects (args := #[]) (mvT hZ (w37 hw))) (w37 hw) (w36 hw) (w16 hw) (w38 hw) (by decide) (r_size l Z a0 hw [] b9 (2 : Int32) T14.heap n0 (Nat.le_trans Z0 sz_0_7) Q14_3') rfl f21 (W := 0) (by decide) (g := (mkF m 151 #[vi p0, vi p1, vi 1, vi 0, vr b1, vr b3, vr b5, vr b7, vr b9, vr b1, vr b1, .unset] [(.ref b9)])) rfl (by rw [hml]; rfl) (argsL := []) (rest := []) (lenOf pd_5 rfl) rfl rfl (own_wr rfl rfl) (hb hby at_151)
  obtain ⟨rfl, N20q, e20⟩ := hQ20
  have N20 := Fr.app N14 N20q
  have f23 := (kFld K14 (kFld K11 (kFld K9 F_b7_after nw0) (nwS (Or.inl (Ne.symm (lt_ne (Nat.lt_of_lt_of_le lt_b1 sz_1_3) ge_b7))) (nwM 3 rfl (lt_ne lt_b7 ge_b9) nw0))) (nwS (Or.inr (sn_12 hw)) (nwS (Or.inl (Ne.symm (lt_ne (Nat.lt_of_lt_of_le lt_b1 sz_1_3) ge_b7))) (nwS (Or.inl (lt_ne lt_b7 ge_b9)) (nwS (Or.inl (lt_ne lt_b7 ge_b9)) nw0)))))
  obtain ⟨_, T22, L22, X22, hQ22, st22⟩ := own_virtual X20 hx hZ hown (w39 hw) (w40 hw) (notFace_of_selects (args := #[]) (mvT hZ (w42 hw))) (w42 hw) (w41 hw) (w16 hw) (w43 hw) (by decide) (r_after0 l Z a0 hw [] b9 b7 T14.heap n0 (Nat.le_trans Z0 sz_0_7) f23) e20 f21 (W := 0) (by decide) (g := (mkF m 176 #[vi p0, vi p1, vi 1, vi 0, vr b1, vr b3, vr b5, vr b7, vr b9, vr b1, vr b1, vi 1] [(.ref b7), (.ref b9)])) rfl (by rw [hml]; rfl) (argsL := [(.ref b7)]) (rest := []) (lenOf pd_2 rfl) rfl rfl (own_wr rfl rfl) (hb hby at_176)
  obtain ⟨rfl, N22q, e22⟩ := hQ22
  have N22 := Fr.app N20 N22q
  have f25 := (kExa K14 f16)
  obtain ⟨_, T24, L24, X24, hQ24, st24⟩ := own_virtual X22 hx hZ hown (w39 hw) (w40 hw) (notFace_of_selects (args := #[]) (mvT hZ (w42 hw))) (w42 hw) (w41 hw) (w16 hw) (w43 hw) (by decide) (r_after1 l Z a0 hw [] b9 b1 b7 T14.heap n0 (Nat.le_trans Z0 sz_0_7) Q14_1 f25) e22 f21 (W := 0) (by decide) (g := (mkF m 203 #[vi p0, vi p1, vi 1, vi 0, vr b1, vr b3, vr b5, vr b7, vr b9, vr b1, vr b1, vi 1] [(.ref b1), (.ref b9)])) rfl (by rw [hml]; rfl) (argsL := [(.ref b1)]) (rest := []) (lenOf pd_2 rfl) rfl rfl (own_wr rfl rfl) (hb hby at_203)
  obtain ⟨rfl, N24q, e24⟩ := hQ24
  have N24 := Fr.app N22 N24q
  have f27 := (kFld K14 Q11_1 (nwS (Or.inl (Ne.symm (lt_ne lt_b7 ge_b9))) (nwS (Or.inl (Ne.symm (lt_ne (Nat.lt_of_lt_of_le lt_b1 sz_1_4) ge_b9))) (nwS (Or.inr (sn_3 hw)) (nwS (Or.inr (sn_4 hw)) nw0)))))
  obtain ⟨_, T26, L26, X26, hQ26, st26⟩ := own_virtual X24 hx hZ hown (w46 hw) (w47 hw) (notFace_of_selects (args := #[]) (mvT hZ (w49 hw))) (w49 hw) (w48 hw) (w16 hw) (w50 hw) (by decide) (r_iter1 l Z a0 hw [] b9 b1 T14.heap n0 (Nat.le_trans Z0 sz_0_7) f27) e24 f21 (W := 0) (by decide) (g := (mkF m 225 #[vi p0, vi p1, vi 1, vi 0, vr b1, vr b3, vr b5, vr b7, vr b9, vr b1, vr b1, vi 1] [(.ref b9)])) rfl (by rw [hml]; rfl) (argsL := []) (rest := []) (lenOf pd_6 rfl) rfl rfl (own_wr rfl rfl) (hb hby at_225)
  obtain ⟨b1_26, rfl, N26q, K26, Q26_0, Q26_1, Q26_2, Q26_3, Q26_4⟩ := hQ26
  have N26 := Fr.app N24 N26q
  have f30 := (kExa K26 f21)
  have f31 := (kFld K26 Q14_1 nw0)
  have f32 := (kExa K26 f25)
  have sz_1_5 := (Nat.le_trans sz_1_4 K9.1)
  have sz_1_6 := (Nat.le_trans sz_1_5 K11.1)
  have sz_1_7 := (Nat.le_trans sz_1_6 K14.1)
  have sz_0_8 := (Nat.le_trans sz_0_7 K26.1)
  obtain ⟨_, T29, L29, X29, hQ29, st29⟩ := own_face X26 hx hZ hown (w63 hw) (w64 hw) (mvT hZ (w65 hw)) (w66 hw) (w67 hw) (w68 hw) (w69 hw) (w70 hw) (w53 hw) (w71 hw) (by decide) (r_nextb1 l Z a0 hw [] b1_26 b1 .null b9 b7 T26.heap n0 (Nat.le_trans Z0 sz_0_8) Q26_1 Q26_3 Q26_4 Q26_2 f30 f31 f32 (Nat.le_trans Z0 (Nat.le_trans sz_0_7 Q26_0)) (Ne.symm (lt_ne (Nat.lt_of_lt_of_le lt_b1 sz_1_7) Q26_0))) rfl Q26_1 (W := 0) (by decide) (g := (mkF m 228 #[vi p0, vi p1, vi 1, vi 0, vr b1, vr b3, vr b5, vr b7, vr b9, vr b1, vr b1, vi 1] [(.ref b1_26)])) rfl (by rw [hml]; rfl) (argsL := []) (rest := []) (lenOf pd_7 rfl) rfl rfl (own_wr rfl rfl) (hb hby at_228)
  obtain ⟨rfl, N29q, K29, Q29_0, Q29_1⟩ := hQ29
  have N29 := Fr.app N26 N29q
  refine ⟨T29, _, some (.int 1), X29, (fun h => by cases h <;> rfl), ?_, fun fs hr => ?_⟩
  · show Q_law n0 _ _
    exact ⟨rfl, N29⟩
  · refine t_iloadN 1 X0.here hx (hb hby at_0) rfl rfl ?_
    refine t_iconst 2 (r := 3) X0.here hx (hb hby at_1) (by decide) rfl ?_
    refine t_iand 3 (r := 1) X0.here hx (hb hby at_2) hk rfl ?_
    refine t_istoreN (pc' := 4) (L' := #[vi p0, vi p1, vi 1, .unset, .unset, .unset, .unset, .unset, .unset, .unset, .unset, .unset]) X0.here hx (hb hby at_3) rfl rfl ?_
    refine t_iloadN 5 X0.here hx (hb hby at_4) rfl rfl ?_
    refine t_iconst 6 (r := 1) X0.here hx (hb hby at_5) (by decide) rfl ?_
    refine t_iand 7 (r := 0) X0.here hx (hb hby at_6) hm rfl ?_
    refine t_ifYes (pc := 7) 14 X0.here hx (hb hby at_7) (by decide) (by decide) (by decide) ?_
    refine t_iconst 15 (r := 0) X0.here hx (hb hby at_14) (by decide) rfl ?_
    refine t_istoreN (pc' := 16) (L' := #[vi p0, vi p1, vi 1, vi 0, .unset, .unset, .unset, .unset, .unset, .unset, .unset, .unset]) X0.here hx (hb hby at_15) rfl rfl ?_
    refine st1 _ ?_
    refine t_dup 20 X1.here hx (hb hby at_19) rfl rfl ?_
    refine st2 _ ?_
    refine t_astore (pc' := 25) (L' := #[vi p0, vi p1, vi 1, vi 0, vr b1, .unset, .unset, .unset, .unset, .unset, .unset, .unset]) X2.here hx (hb hby at_23) rfl rfl rfl ?_
    refine st3 _ ?_
    refine t_dup 29 X3.here hx (hb hby at_28) rfl rfl ?_
    refine st4 _ ?_
    refine t_astore (pc' := 34) (L' := #[vi p0, vi p1, vi 1, vi 0, vr b1, vr b3, .unset, .unset, .unset, .unset, .unset, .unset]) X4.here hx (hb hby at_32) rfl rfl rfl ?_
    refine st5 _ ?_
    refine t_dup 38 X5.here hx (hb hby at_37) rfl rfl ?_
    refine st6 _ ?_
    refine t_astore (pc' := 43) (L' := #[vi p0, vi p1, vi 1, vi 0, vr b1, vr b3, vr b5, .unset, .unset, .unset, .unset, .unset]) X6.here hx (hb hby at_41) rfl rfl rfl ?_
    refine st7 _ ?_
    refine t_dup 47 X7.here hx (hb hby at_46) rfl rfl ?_
    refine st8 _ ?_
    refine t_astore (pc' := 52) (L' := #[vi p0, vi p1, vi 1, vi 0, vr b1, vr b3, vr b5, vr b7, .unset, .unset, .unset, .unset]) X8.here hx (hb hby at_50) rfl rfl rfl ?_
    refine st9 _ ?_
    refine t_dup 56 X9.here hx (hb hby at_55) rfl rfl ?_
    refine st10 _ ?_
    refine t_astore (pc' := 61) (L' := #[vi p0, vi p1, vi 1, vi 0, vr b1, vr b3, vr b5, vr b7, vr b9, .unset, .unset, .unset]) X10.here hx (hb hby at_59) rfl rfl rfl ?_
    refine t_iloadN 62 X10.here hx (hb hby at_61) rfl rfl ?_
    refine t_iconst 63 (r := 1) X10.here hx (hb hby at_62) (by decide) rfl ?_
    refine t_icmpNo 66 X10.here hx (hb hby at_63) (by decide) rfl ?_
    refine t_aload 68 X10.here hx (hb hby at_66) rfl rfl rfl ?_
    refine t_aload 70 X10.here hx (hb hby at_68) rfl rfl rfl ?_
    refine st11 _ ?_
    refine t_iloadN 74 X11.here hx (hb hby at_73) rfl rfl ?_
    refine t_iconst 75 (r := 2) X11.here hx (hb hby at_74) (by decide) rfl ?_
    refine t_icmpYes (pc := 75) 85 X11.here hx (hb hby at_75) (by decide) (by decide) (by decide) ?_
    refine t_iloadN 86 X11.here hx (hb hby at_85) rfl rfl ?_
    refine t_iconst 87 (r := 3) X11.here hx (hb hby at_86) (by decide) rfl ?_
    refine t_icmpYes (pc := 87) 97 X11.here hx (hb hby at_87) (by decide) (by decide) (by decide) ?_
    refine t_iloadN 98 X11.here hx (hb hby at_97) rfl rfl ?_
    refine t_ifYes (pc := 98) 105 X11.here hx (hb hby at_98) (by decide) (by decide) (by decide) ?_
    refine t_iloadN 106 X11.here hx (hb hby at_105) rfl rfl ?_
    refine t_iconst 107 (r := 1) X11.here hx (hb hby at_106) (by decide) rfl ?_
    refine t_icmpNo 110 X11.here hx (hb hby at_107) (by decide) rfl ?_
    refine t_aload 112 X11.here hx (hb hby at_110) rfl rfl rfl ?_
    refine t_goto (pc := 112) 127 X11.here hx (hb hby at_112) (by decide) (by decide) ?_
    refine t_astore (pc' := 129) (L' := #[vi p0, vi p1, vi 1, vi 0, vr b1, vr b3, vr b5, vr b7, vr b9, vr b1, .unset, .unset]) X11.here hx (hb hby at_127) rfl rfl rfl ?_
    refine t_iloadN 130 X11.here hx (hb hby at_129) rfl rfl ?_
    refine t_ifYes (pc := 130) 138 X11.here hx (hb hby at_130) (by decide) (by decide) (by decide) ?_
    refine t_aload 140 X11.here hx (hb hby at_138) rfl rfl rfl ?_
    refine t_astore (pc' := 142) (L' := #[vi p0, vi p1, vi 1, vi 0, vr b1, vr b3, vr b5, vr b7, vr b9, vr b1, vr b1, .unset]) X11.here hx (hb hby at_140) rfl rfl rfl ?_
    refine t_aload 144 X11.here hx (hb hby at_142) rfl rfl rfl ?_
    refine t_aload 146 X11.here hx (hb hby at_144) rfl rfl rfl ?_
    refine st14 _ ?_
    refine t_aload 151 X14.here hx (hb hby at_149) rfl rfl rfl ?_
    refine st20 _ ?_
    refine t_iloadN 155 X20.here hx (hb hby at_154) rfl rfl ?_
    refine t_iconst 156 (r := 1) X20.here hx (hb hby at_155) (by decide) rfl ?_
    refine t_iadd 157 (r := 2) X20.here hx (hb hby at_156) (by decide : ((1 : Int32) + (1 : Int32)) = (2 : Int32)) rfl ?_
    refine t_icmpNo 160 X20.here hx (hb hby at_157) (by decide) rfl ?_
    refine t_iconst 161 (r := 1) X20.here hx (hb hby at_160) (by decide) rfl ?_
    refine t_goto (pc := 161) 165 X20.here hx (hb hby at_161) (by decide) (by decide) ?_
    refine t_istore (pc' := 167) (L' := #[vi p0, vi p1, vi 1, vi 0, vr b1, vr b3, vr b5, vr b7, vr b9, vr b1, vr b1, vi 1]) X20.here hx (hb hby at_165) rfl rfl ?_
    refine t_iload 169 X20.here hx (hb hby at_167) rfl rfl ?_
    refine t_ifNo 172 X20.here hx (hb hby at_169) (by decide) rfl ?_
    refine t_aload 174 X20.here hx (hb hby at_172) rfl rfl rfl ?_
    refine t_aload 176 X20.here hx (hb hby at_174) rfl rfl rfl ?_
    refine st22 _ ?_
    refine t_ifnonnullNo 182 X22.here hx (hb hby at_179) rfl ?_
    refine t_iconst 183 (r := 1) X22.here hx (hb hby at_182) (by decide) rfl ?_
    refine t_goto (pc := 183) 187 X22.here hx (hb hby at_183) (by decide) (by decide) ?_
    refine t_istore (pc' := 189) (L' := #[vi p0, vi p1, vi 1, vi 0, vr b1, vr b3, vr b5, vr b7, vr b9, vr b1, vr b1, vi 1]) X22.here hx (hb hby at_187) rfl rfl ?_
    refine t_iload 191 X22.here hx (hb hby at_189) rfl rfl ?_
    refine t_ifNo 194 X22.here hx (hb hby at_191) (by decide) rfl ?_
    refine t_aload 196 X22.here hx (hb hby at_194) rfl rfl rfl ?_
    refine t_ifnullNo 199 X22.here hx (hb hby at_196) rfl ?_
    refine t_aload 201 X22.here hx (hb hby at_199) rfl rfl rfl ?_
    refine t_aload 203 X22.here hx (hb hby at_201) rfl rfl rfl ?_
    refine st24 _ ?_
    refine t_aload 208 X24.here hx (hb hby at_206) rfl rfl rfl ?_
    refine Jvm.RoadKit.acmp (g := (mkF m 208 #[vi p0, vi p1, vi 1, vi 0, vr b1, vr b3, vr b5, vr b7, vr b9, vr b1, vr b1, vi 1] [(.ref b7), (.ref b7)])) X24 hx rfl rfl rfl (pc0 := 208) (pc' := 211) (same := true) rfl (hb hby at_208) rfl (decide_eq_true rfl) (by decide) (by decide) ?_
    refine t_iconst 212 (r := 1) X24.here hx (hb hby at_211) (by decide) rfl ?_
    refine t_goto (pc := 212) 216 X24.here hx (hb hby at_212) (by decide) (by decide) ?_
    refine t_istore (pc' := 218) (L' := #[vi p0, vi p1, vi 1, vi 0, vr b1, vr b3, vr b5, vr b7, vr b9, vr b1, vr b1, vi 1]) X24.here hx (hb hby at_216) rfl rfl ?_
    refine t_iload 220 X24.here hx (hb hby at_218) rfl rfl ?_
    refine t_ifNo 223 X24.here hx (hb hby at_220) (by decide) rfl ?_
    refine t_aload 225 X24.here hx (hb hby at_223) rfl rfl rfl ?_
    refine st26 _ ?_
    refine st29 _ ?_
    refine t_aload 235 X29.here hx (hb hby at_233) rfl rfl rfl ?_
    refine Jvm.RoadKit.acmp (g := (mkF m 235 #[vi p0, vi p1, vi 1, vi 0, vr b1, vr b3, vr b5, vr b7, vr b9, vr b1, vr b1, vi 1] [(.ref b1), (.ref b1)])) X29 hx rfl rfl rfl (pc0 := 235) (pc' := 238) (same := true) rfl (hb hby at_235) rfl (decide_eq_true rfl) (by decide) (by decide) ?_
    refine t_iconst 239 (r := 1) X29.here hx (hb hby at_238) (by decide) rfl ?_
    refine t_goto (pc := 239) 243 X29.here hx (hb hby at_239) (by decide) (by decide) ?_
    refine t_istore (pc' := 245) (L' := #[vi p0, vi p1, vi 1, vi 0, vr b1, vr b3, vr b5, vr b7, vr b9, vr b1, vr b1, vi 1]) X29.here hx (hb hby at_243) rfl rfl ?_
    refine t_iload 247 X29.here hx (hb hby at_245) rfl rfl ?_
    refine t_ifNo 250 X29.here hx (hb hby at_247) (by decide) rfl ?_
    refine t_iloadN 251 X29.here hx (hb hby at_250) rfl rfl ?_
    refine t_ifYes (pc := 251) 347 X29.here hx (hb hby at_251) (by decide) (by decide) (by decide) ?_
    refine t_iload 349 X29.here hx (hb hby at_347) rfl rfl ?_
    exact retN X29 hx (t := .boolean) hret (by simp) (hb hby at_349) hr
theorem ef_law_1_1 (p0 p1 : Int32) (m : MethodId) : entryFrame m #[(.int p0), (.int p1)] maxLocals = mkF m 0 #[.val (.int p0), .val (.int p1), .unset, .unset, .unset, .unset, .unset, .unset, .unset, .unset, .unset, .unset] [] := by first | (simp [entryFrame, mkF, argsToLocals, Value.category, maxLocals]; done) | rfl
set_option maxRecDepth 65536 in
set_option maxHeartbeats 40000000 in
theorem law_1_1 (l : Launch) (Z : State) (a0 : Array Value) (hw : HW Z a0) (ws : List Jvm.Cond) (p0 p1 : Int32) (h0 : Heap) (n0 : Nat) (Z0 : n0 ≤ h0.size) (hk : p0 &&& (3 : Int32) = (1 : Int32)) (hm : p1 &&& (1 : Int32) = (1 : Int32)) :
    MetFree l x (head1 (Jvm.Cond.code x code maxLocals ret :: ws) room_1) (fun a U => a = #[(.int p0), (.int p1)] ∧ Z.Warmed39 U.vm ∧ U.heap = h0) (fun _ _ _ _ _ => True) (fun _ U o U' => ∃ v L, o = .returned v ∧ Q_law n0 v L ∧ FrameEnd U o U' L 24 128) := by
  refine own_law (y := x) (k := 7) (n := 17) (plainFor_of_name pn_InsertionOrderAddPinLaw273) (ef_law_1_1 p0 p1) (by decide) (by decide) ?_
  intro p e s m below meth c s₁ hx hby hml hown hnm hret hZ hh e0 X0
  have N0 := Fr.nil n0
  obtain ⟨T1, h1, X1, e1, E1, A1, D1, -, st1⟩ := newO X0 hx hZ hown (w0 hw) (w1 hw) (w2 hw) e0 (g := (mkF m 16 #[vi p0, vi p1, vi 1, vi 1, .unset, .unset, .unset, .unset, .unset, .unset, .unset, .unset] [])) rfl (hb hby at_16) (by decide) (by decide)
  obtain ⟨b1, g1⟩ : ∃ z, z = h0.size := ⟨_, rfl⟩
  rw [← g1] at A1 D1 st1
  have ge_b1 : h0.size ≤ b1 := Nat.le_of_eq g1.symm
  have K1 := KL.ofE E1
  have F_b1_before : Fd1 Z h1 b1 .null := D1 (Or.inl (w29 hw)) (ty := (.object "java/lang/Object")) (by decide)
  have F_b1_after : Fd4 Z h1 b1 .null := D1 (Or.inl (w45 hw)) (ty := (.object "java/lang/Object")) (by decide)
  obtain ⟨_, T2, L2, X2, hQ2, st2⟩ := own_init X1 hx hZ rfl hown (w3 hw) (w4 hw) (w2 hw) (w5 hw) (by decide) (r_init l Z a0 hw [] b1 h1 n0 (Nat.le_trans Z0 K1.1)) e1 (W := 1) (by decide) (g := (mkF m 20 #[vi p0, vi p1, vi 1, vi 1, .unset, .unset, .unset, .unset, .unset, .unset, .unset, .unset] [(.ref b1), (.ref b1)])) rfl (by rw [hml]; rfl) (argsL := []) (rest := [(.ref b1)]) (lenOf pd_0 rfl) rfl rfl (own_wr rfl rfl) (hb hby at_20)
  obtain ⟨rfl, N2q, e2⟩ := hQ2
  have N2 := Fr.app N0 N2q
  obtain ⟨T3, h3, X3, e3, E3, A3, D3, -, st3⟩ := newO X2 hx hZ hown (w0 hw) (w1 hw) (w2 hw) e2 (g := (mkF m 25 #[vi p0, vi p1, vi 1, vi 1, vr b1, .unset, .unset, .unset, .unset, .unset, .unset, .unset] [])) rfl (hb hby at_25) (by decide) (by decide)
  obtain ⟨b3, g3⟩ : ∃ z, z = h1.size := ⟨_, rfl⟩
  rw [← g3] at A3 D3 st3
  have ge_b3 : h1.size ≤ b3 := Nat.le_of_eq g3.symm
  have K3 := KL.ofE E3
  have F_b3_before : Fd1 Z h3 b3 .null := D3 (Or.inl (w29 hw)) (ty := (.object "java/lang/Object")) (by decide)
  have F_b3_after : Fd4 Z h3 b3 .null := D3 (Or.inl (w45 hw)) (ty := (.object "java/lang/Object")) (by decide)
  have sz_0_2 := (Nat.le_trans K1.1 K3.1)
  obtain ⟨_, T4, L4, X4, hQ4, st4⟩ := own_init X3 hx hZ rfl hown (w3 hw) (w4 hw) (w2 hw) (w5 hw) (by decide) (r_init l Z a0 hw [] b3 h3 n0 (Nat.le_trans Z0 sz_0_2)) e3 (W := 1) (by decide) (g := (mkF m 29 #[vi p0, vi p1, vi 1, vi 1, vr b1, .unset, .unset, .unset, .unset, .unset, .unset, .unset] [(.ref b3), (.ref b3)])) rfl (by rw [hml]; rfl) (argsL := []) (rest := [(.ref b3)]) (lenOf pd_0 rfl) rfl rfl (own_wr rfl rfl) (hb hby at_29)
  obtain ⟨rfl, N4q, e4⟩ := hQ4
  have N4 := Fr.app N2 N4q
  obtain ⟨T5, h5, X5, e5, E5, A5, D5, -, st5⟩ := newO X4 hx hZ hown (w0 hw) (w1 hw) (w2 hw) e4 (g := (mkF m 34 #[vi p0, vi p1, vi 1, vi 1, vr b1, vr b3, .unset, .unset, .unset, .unset, .unset, .unset] [])) rfl (hb hby at_34) (by decide) (by decide)
  obtain ⟨b5, g5⟩ : ∃ z, z = h3.size := ⟨_, rfl⟩
  rw [← g5] at A5 D5 st5
  have ge_b5 : h3.size ≤ b5 := Nat.le_of_eq g5.symm
  have K5 := KL.ofE E5
  have F_b5_before : Fd1 Z h5 b5 .null := D5 (Or.inl (w29 hw)) (ty := (.object "java/lang/Object")) (by decide)
  have F_b5_after : Fd4 Z h5 b5 .null := D5 (Or.inl (w45 hw)) (ty := (.object "java/lang/Object")) (by decide)
  have sz_0_3 := (Nat.le_trans sz_0_2 K5.1)
  obtain ⟨_, T6, L6, X6, hQ6, st6⟩ := own_init X5 hx hZ rfl hown (w3 hw) (w4 hw) (w2 hw) (w5 hw) (by decide) (r_init l Z a0 hw [] b5 h5 n0 (Nat.le_trans Z0 sz_0_3)) e5 (W := 1) (by decide) (g := (mkF m 38 #[vi p0, vi p1, vi 1, vi 1, vr b1, vr b3, .unset, .unset, .unset, .unset, .unset, .unset] [(.ref b5), (.ref b5)])) rfl (by rw [hml]; rfl) (argsL := []) (rest := [(.ref b5)]) (lenOf pd_0 rfl) rfl rfl (own_wr rfl rfl) (hb hby at_38)
  obtain ⟨rfl, N6q, e6⟩ := hQ6
  have N6 := Fr.app N4 N6q
  obtain ⟨T7, h7, X7, e7, E7, A7, D7, -, st7⟩ := newO X6 hx hZ hown (w0 hw) (w1 hw) (w2 hw) e6 (g := (mkF m 43 #[vi p0, vi p1, vi 1, vi 1, vr b1, vr b3, vr b5, .unset, .unset, .unset, .unset, .unset] [])) rfl (hb hby at_43) (by decide) (by decide)
  obtain ⟨b7, g7⟩ : ∃ z, z = h5.size := ⟨_, rfl⟩
  rw [← g7] at A7 D7 st7
  have ge_b7 : h5.size ≤ b7 := Nat.le_of_eq g7.symm
  have K7 := KL.ofE E7
  have F_b7_before : Fd1 Z h7 b7 .null := D7 (Or.inl (w29 hw)) (ty := (.object "java/lang/Object")) (by decide)
  have F_b7_after : Fd4 Z h7 b7 .null := D7 (Or.inl (w45 hw)) (ty := (.object "java/lang/Object")) (by decide)
  have sz_0_4 := (Nat.le_trans sz_0_3 K7.1)
  obtain ⟨_, T8, L8, X8, hQ8, st8⟩ := own_init X7 hx hZ rfl hown (w3 hw) (w4 hw) (w2 hw) (w5 hw) (by decide) (r_init l Z a0 hw [] b7 h7 n0 (Nat.le_trans Z0 sz_0_4)) e7 (W := 1) (by decide) (g := (mkF m 47 #[vi p0, vi p1, vi 1, vi 1, vr b1, vr b3, vr b5, .unset, .unset, .unset, .unset, .unset] [(.ref b7), (.ref b7)])) rfl (by rw [hml]; rfl) (argsL := []) (rest := [(.ref b7)]) (lenOf pd_0 rfl) rfl rfl (own_wr rfl rfl) (hb hby at_47)
  obtain ⟨rfl, N8q, e8⟩ := hQ8
  have N8 := Fr.app N6 N8q
  obtain ⟨T9, h9, X9, e9, E9, A9, D9, -, st9⟩ := newO X8 hx hZ hown (w14 hw) (w15 hw) (w16 hw) e8 (g := (mkF m 52 #[vi p0, vi p1, vi 1, vi 1, vr b1, vr b3, vr b5, vr b7, .unset, .unset, .unset, .unset] [])) rfl (hb hby at_52) (by decide) (by decide)
  obtain ⟨b9, g9⟩ : ∃ z, z = h7.size := ⟨_, rfl⟩
  rw [← g9] at A9 D9 st9
  have ge_b9 : h7.size ≤ b9 := Nat.le_of_eq g9.symm
  have K9 := KL.ofE E9
  have F_b9_last : Fd0 Z h9 b9 .null := D9 (Or.inl (w27 hw)) (ty := (.object "com/example/bourse/bourse/sim/InsertionOrder$Link")) (by decide)
  have F_b9_first : Fd2 Z h9 b9 .null := D9 (Or.inl (w31 hw)) (ty := (.object "com/example/bourse/bourse/sim/InsertionOrder$Link")) (by decide)
  have F_b9_size : Fd3 Z h9 b9 z0 := D9 (Or.inl (w33 hw)) (ty := .int) (by decide)
  have sz_0_5 := (Nat.le_trans sz_0_4 K9.1)
  obtain ⟨_, T10, L10, X10, hQ10, st10⟩ := own_init X9 hx hZ rfl hown (w17 hw) (w18 hw) (w16 hw) (w19 hw) (by decide) (r_oinit l Z a0 hw [] b9 h9 n0 (Nat.le_trans Z0 sz_0_5)) e9 (W := 1) (by decide) (g := (mkF m 56 #[vi p0, vi p1, vi 1, vi 1, vr b1, vr b3, vr b5, vr b7, .unset, .unset, .unset, .unset] [(.ref b9), (.ref b9)])) rfl (by rw [hml]; rfl) (argsL := []) (rest := [(.ref b9)]) (lenOf pd_0 rfl) rfl rfl (own_wr rfl rfl) (hb hby at_56)
  obtain ⟨rfl, N10q, e10⟩ := hQ10
  have N10 := Fr.app N8 N10q
  have f12 := (kFld K9 (kFld K7 (kFld K5 (kFld K3 F_b1_before nw0) nw0) nw0) nw0)
  have f13 := (kExa K9 (kExa K7 (kExa K5 (kExa K3 A1))))
  have lt_b1 : b1 < h1.size := Exa.lt A1
  have sz_1_3 := (Nat.le_trans K3.1 K5.1)
  have sz_1_4 := (Nat.le_trans sz_1_3 K7.1)
  obtain ⟨_, T11, L11, X11, hQ11, st11⟩ := own_virtual X10 hx hZ hown (w21 hw) (w22 hw) (notFace_of_selects (args := #[]) (mvT hZ (w24 hw))) (w24 hw) (w23 hw) (w16 hw) (w25 hw) (by decide) (r_add0 l Z a0 hw [] b9 b1 .null .null (0 : Int32) h9 n0 (Nat.le_trans Z0 sz_0_5) F_b9_last f12 f13 (Nat.le_trans Z0 (Nat.le_trans (Nat.le_refl _) ge_b1)) (Ne.symm (lt_ne (Nat.lt_of_lt_of_le lt_b1 sz_1_4) ge_b9)) F_b9_first A9 (Nat.le_trans Z0 (Nat.le_trans sz_0_4 ge_b9)) F_b9_size) e10 A9 (W := 0) (by decide) (g := (mkF m 70 #[vi p0, vi p1, vi 1, vi 1, vr b1, vr b3, vr b5, vr b7, vr b9, .unset, .unset, .unset] [(.ref b1), (.ref b9)])) rfl (by rw [hml]; rfl) (argsL := [(.ref b1)]) (rest := []) (lenOf pd_4 rfl) rfl rfl (own_wr rfl rfl) (hb hby at_70)
  obtain ⟨rfl, N11q, K11, Q11_0, Q11_1, Q11_2, Q11_3⟩ := hQ11
  have N11 := Fr.app N10 N11q
  have Q11_3' : Fd3 Z T11.heap b9 (.int 1) := Eq.mp (congrArg (fun z => Fd3 Z T11.heap b9 (Value.int z)) (by decide : ((0 : Int32) + (1 : Int32)) = (1 : Int32))) Q11_3
  have lt_b7 : b7 < h7.size := Exa.lt A7
  have f15 := (kFld K11 (kFld K9 F_b7_before nw0) (nwS (Or.inl (Ne.symm (lt_ne (Nat.lt_of_lt_of_le lt_b1 sz_1_3) ge_b7))) (nwM 3 rfl (lt_ne lt_b7 ge_b9) nw0)))
  have f16 := (kExa K11 (kExa K9 A7))
  have f17 := (kFld K11 (kFld K9 (kFld K7 (kFld K5 (kFld K3 F_b1_after nw0) nw0) nw0) nw0) (nwS (Or.inr (sn_12 hw)) (nwM 3 rfl (lt_ne (Nat.lt_of_lt_of_le lt_b1 sz_1_4) ge_b9) nw0)))
  have f18 := (kExa K11 f13)
  have f19 := (kExa K11 A9)
  have sz_0_6 := (Nat.le_trans sz_0_5 K11.1)
  obtain ⟨_, T14, L14, X14, hQ14, st14⟩ := own_virtual X11 hx hZ hown (w21 hw) (w22 hw) (notFace_of_selects (args := #[]) (mvT hZ (w24 hw))) (w24 hw) (w23 hw) (w16 hw) (w25 hw) (by decide) (r_add1 l Z a0 hw [] b9 b7 b1 .null .null (1 : Int32) T11.heap n0 (Nat.le_trans Z0 sz_0_6) Q11_2 f15 f16 (Nat.le_trans Z0 (Nat.le_trans sz_0_3 ge_b7)) (Ne.symm (lt_ne lt_b7 ge_b9)) f17 (Ne.symm (lt_ne (Nat.lt_of_lt_of_le lt_b1 sz_1_3) ge_b7)) f18 (Nat.le_trans Z0 (Nat.le_trans (Nat.le_refl _) ge_b1)) (Ne.symm (lt_ne (Nat.lt_of_lt_of_le lt_b1 sz_1_4) ge_b9)) f19 (Nat.le_trans Z0 (Nat.le_trans sz_0_4 ge_b9)) Q11_3') rfl f19 (W := 0) (by decide) (g := (mkF m 146 #[vi p0, vi p1, vi 1, vi 1, vr b1, vr b3, vr b5, vr b7, vr b9, vr b1, vr b1, .unset] [(.ref b7), (.ref b9)])) rfl (by rw [hml]; rfl) (argsL := [(.ref b7)]) (rest := []) (lenOf pd_4 rfl) rfl rfl (own_wr rfl rfl) (hb hby at_146)
  obtain ⟨rfl, N14q, K14, Q14_0, Q14_1, Q14_2, Q14_3⟩ := hQ14
  have N14 := Fr.app N11 N14q
  have Q14_3' : Fd3 Z T14.heap b9 (.int 2) := Eq.mp (congrArg (fun z => Fd3 Z T14.heap b9 (Value.int z)) (by decide : ((1 : Int32) + (1 : Int32)) = (2 : Int32))) Q14_3
  have sz_0_7 := (Nat.le_trans sz_0_6 K14.1)
  have f21 := (kExa K14 f19)
  obtain ⟨_, T20, L20, X20, hQ20, st20⟩ := own_virtual X14 hx hZ hown (w34 hw) (w35 hw) (notFace_of_selects (args := #[]) (mvT hZ (w37 hw))) (w37 hw) (w36 hw) (w16 hw) (w38 hw) (by decide) (r_size l Z a0 hw [] b9 (2 : Int32) T14.heap n0 (Nat.le_trans Z0 sz_0_7) Q14_3') rfl f21 (W := 0) (by decide) (g := (mkF m 151 #[vi p0, vi p1, vi 1, vi 1, vr b1, vr b3, vr b5, vr b7, vr b9, vr b1, vr b1, .unset] [(.ref b9)])) rfl (by rw [hml]; rfl) (argsL := []) (rest := []) (lenOf pd_5 rfl) rfl rfl (own_wr rfl rfl) (hb hby at_151)
  obtain ⟨rfl, N20q, e20⟩ := hQ20
  have N20 := Fr.app N14 N20q
  have f23 := (kFld K14 (kFld K11 (kFld K9 F_b7_after nw0) (nwS (Or.inl (Ne.symm (lt_ne (Nat.lt_of_lt_of_le lt_b1 sz_1_3) ge_b7))) (nwM 3 rfl (lt_ne lt_b7 ge_b9) nw0))) (nwS (Or.inr (sn_12 hw)) (nwS (Or.inl (Ne.symm (lt_ne (Nat.lt_of_lt_of_le lt_b1 sz_1_3) ge_b7))) (nwS (Or.inl (lt_ne lt_b7 ge_b9)) (nwS (Or.inl (lt_ne lt_b7 ge_b9)) nw0)))))
  obtain ⟨_, T22, L22, X22, hQ22, st22⟩ := own_virtual X20 hx hZ hown (w39 hw) (w40 hw) (notFace_of_selects (args := #[]) (mvT hZ (w42 hw))) (w42 hw) (w41 hw) (w16 hw) (w43 hw) (by decide) (r_after0 l Z a0 hw [] b9 b7 T14.heap n0 (Nat.le_trans Z0 sz_0_7) f23) e20 f21 (W := 0) (by decide) (g := (mkF m 176 #[vi p0, vi p1, vi 1, vi 1, vr b1, vr b3, vr b5, vr b7, vr b9, vr b1, vr b1, vi 1] [(.ref b7), (.ref b9)])) rfl (by rw [hml]; rfl) (argsL := [(.ref b7)]) (rest := []) (lenOf pd_2 rfl) rfl rfl (own_wr rfl rfl) (hb hby at_176)
  obtain ⟨rfl, N22q, e22⟩ := hQ22
  have N22 := Fr.app N20 N22q
  have f25 := (kExa K14 f16)
  obtain ⟨_, T24, L24, X24, hQ24, st24⟩ := own_virtual X22 hx hZ hown (w39 hw) (w40 hw) (notFace_of_selects (args := #[]) (mvT hZ (w42 hw))) (w42 hw) (w41 hw) (w16 hw) (w43 hw) (by decide) (r_after1 l Z a0 hw [] b9 b1 b7 T14.heap n0 (Nat.le_trans Z0 sz_0_7) Q14_1 f25) e22 f21 (W := 0) (by decide) (g := (mkF m 203 #[vi p0, vi p1, vi 1, vi 1, vr b1, vr b3, vr b5, vr b7, vr b9, vr b1, vr b1, vi 1] [(.ref b1), (.ref b9)])) rfl (by rw [hml]; rfl) (argsL := [(.ref b1)]) (rest := []) (lenOf pd_2 rfl) rfl rfl (own_wr rfl rfl) (hb hby at_203)
  obtain ⟨rfl, N24q, e24⟩ := hQ24
  have N24 := Fr.app N22 N24q
  have f27 := (kFld K14 Q11_1 (nwS (Or.inl (Ne.symm (lt_ne lt_b7 ge_b9))) (nwS (Or.inl (Ne.symm (lt_ne (Nat.lt_of_lt_of_le lt_b1 sz_1_4) ge_b9))) (nwS (Or.inr (sn_3 hw)) (nwS (Or.inr (sn_4 hw)) nw0)))))
  obtain ⟨_, T26, L26, X26, hQ26, st26⟩ := own_virtual X24 hx hZ hown (w46 hw) (w47 hw) (notFace_of_selects (args := #[]) (mvT hZ (w49 hw))) (w49 hw) (w48 hw) (w16 hw) (w50 hw) (by decide) (r_iter1 l Z a0 hw [] b9 b1 T14.heap n0 (Nat.le_trans Z0 sz_0_7) f27) e24 f21 (W := 0) (by decide) (g := (mkF m 225 #[vi p0, vi p1, vi 1, vi 1, vr b1, vr b3, vr b5, vr b7, vr b9, vr b1, vr b1, vi 1] [(.ref b9)])) rfl (by rw [hml]; rfl) (argsL := []) (rest := []) (lenOf pd_6 rfl) rfl rfl (own_wr rfl rfl) (hb hby at_225)
  obtain ⟨b1_26, rfl, N26q, K26, Q26_0, Q26_1, Q26_2, Q26_3, Q26_4⟩ := hQ26
  have N26 := Fr.app N24 N26q
  have f30 := (kExa K26 f21)
  have f31 := (kFld K26 Q14_1 nw0)
  have f32 := (kExa K26 f25)
  have sz_1_5 := (Nat.le_trans sz_1_4 K9.1)
  have sz_1_6 := (Nat.le_trans sz_1_5 K11.1)
  have sz_1_7 := (Nat.le_trans sz_1_6 K14.1)
  have sz_0_8 := (Nat.le_trans sz_0_7 K26.1)
  obtain ⟨_, T29, L29, X29, hQ29, st29⟩ := own_face X26 hx hZ hown (w63 hw) (w64 hw) (mvT hZ (w65 hw)) (w66 hw) (w67 hw) (w68 hw) (w69 hw) (w70 hw) (w53 hw) (w71 hw) (by decide) (r_nextb1 l Z a0 hw [] b1_26 b1 .null b9 b7 T26.heap n0 (Nat.le_trans Z0 sz_0_8) Q26_1 Q26_3 Q26_4 Q26_2 f30 f31 f32 (Nat.le_trans Z0 (Nat.le_trans sz_0_7 Q26_0)) (Ne.symm (lt_ne (Nat.lt_of_lt_of_le lt_b1 sz_1_7) Q26_0))) rfl Q26_1 (W := 0) (by decide) (g := (mkF m 228 #[vi p0, vi p1, vi 1, vi 1, vr b1, vr b3, vr b5, vr b7, vr b9, vr b1, vr b1, vi 1] [(.ref b1_26)])) rfl (by rw [hml]; rfl) (argsL := []) (rest := []) (lenOf pd_7 rfl) rfl rfl (own_wr rfl rfl) (hb hby at_228)
  obtain ⟨rfl, N29q, K29, Q29_0, Q29_1⟩ := hQ29
  have N29 := Fr.app N26 N29q
  have sz_4_6 := (Nat.le_trans K9.1 K11.1)
  have sz_4_7 := (Nat.le_trans sz_4_6 K14.1)
  have f34 := (kFld K29 (kFld K26 Q14_0 nw0) (nwS (Or.inl (lt_ne (Nat.lt_of_lt_of_le lt_b7 sz_4_7) Q26_0)) (nwS (Or.inl (lt_ne (Nat.lt_of_lt_of_le lt_b7 sz_4_7) Q26_0)) nw0)))
  have f35 := (kExa K29 (kExa K26 (kExa K14 f18)))
  have f36 := (kFld K29 (kFld K26 f23 nw0) (nwS (Or.inl (lt_ne (Nat.lt_of_lt_of_le lt_b7 sz_4_7) Q26_0)) (nwS (Or.inl (lt_ne (Nat.lt_of_lt_of_le lt_b7 sz_4_7) Q26_0)) nw0)))
  have f37 := (kFld K29 f31 (nwS (Or.inl (lt_ne (Nat.lt_of_lt_of_le lt_b1 sz_1_7) Q26_0)) (nwS (Or.inl (lt_ne (Nat.lt_of_lt_of_le lt_b1 sz_1_7) Q26_0)) nw0)))
  have lt_b9 : b9 < h9.size := Exa.lt A9
  have sz_5_7 := (Nat.le_trans K11.1 K14.1)
  have f38 := (kFld K29 (kFld K26 Q14_2 nw0) (nwS (Or.inl (lt_ne (Nat.lt_of_lt_of_le lt_b9 sz_5_7) Q26_0)) (nwS (Or.inl (lt_ne (Nat.lt_of_lt_of_le lt_b9 sz_5_7) Q26_0)) nw0)))
  have f39 := (kExa K29 f30)
  have f40 := (kExa K29 f32)
  have f41 := (kFld K29 (kFld K26 Q14_3' nw0) (nwS (Or.inl (lt_ne (Nat.lt_of_lt_of_le lt_b9 sz_5_7) Q26_0)) (nwS (Or.inl (lt_ne (Nat.lt_of_lt_of_le lt_b9 sz_5_7) Q26_0)) nw0)))
  have sz_0_9 := (Nat.le_trans sz_0_8 K29.1)
  obtain ⟨_, T33, L33, X33, hQ33, st33⟩ := own_virtual X29 hx hZ hown (w80 hw) (w81 hw) (notFace_of_selects (args := #[]) (mvT hZ (w83 hw))) (w83 hw) (w82 hw) (w16 hw) (w84 hw) (by decide) (r_rem1 l Z a0 hw [] b9 b7 b1 (.ref b7) (.ref b7) (2 : Int32) T29.heap n0 (Nat.le_trans Z0 sz_0_9) f34 f35 f36 f37 (Nat.le_trans Z0 (Nat.le_trans (Nat.le_refl _) ge_b1)) (Ne.symm (lt_ne (Nat.lt_of_lt_of_le lt_b1 sz_1_3) ge_b7)) f38 (Ne.symm (lt_ne (Nat.lt_of_lt_of_le lt_b1 sz_1_4) ge_b9)) f39 (Nat.le_trans Z0 (Nat.le_trans sz_0_4 ge_b9)) (Ne.symm (lt_ne lt_b7 ge_b9)) f40 (Nat.le_trans Z0 (Nat.le_trans sz_0_3 ge_b7)) f41) rfl f39 (W := 0) (by decide) (g := (mkF m 258 #[vi p0, vi p1, vi 1, vi 1, vr b1, vr b3, vr b5, vr b7, vr b9, vr b1, vr b1, vi 1] [(.ref b7), (.ref b9)])) rfl (by rw [hml]; rfl) (argsL := [(.ref b7)]) (rest := []) (lenOf pd_4 rfl) rfl rfl (own_wr rfl rfl) (hb hby at_258)
  obtain ⟨rfl, N33q, K33, Q33_0, Q33_1, Q33_2, Q33_3, Q33_4⟩ := hQ33
  have N33 := Fr.app N29 N33q
  have Q33_4' : Fd3 Z T33.heap b9 (.int 1) := Eq.mp (congrArg (fun z => Fd3 Z T33.heap b9 (Value.int z)) (by decide : ((2 : Int32) - (1 : Int32)) = (1 : Int32))) Q33_4
  have sz_0_10 := (Nat.le_trans sz_0_9 K33.1)
  have f43 := (kExa K33 f39)
  obtain ⟨_, T42, L42, X42, hQ42, st42⟩ := own_virtual X33 hx hZ hown (w34 hw) (w35 hw) (notFace_of_selects (args := #[]) (mvT hZ (w37 hw))) (w37 hw) (w36 hw) (w16 hw) (w38 hw) (by decide) (r_size l Z a0 hw [] b9 (1 : Int32) T33.heap n0 (Nat.le_trans Z0 sz_0_10) Q33_4') rfl f43 (W := 0) (by decide) (g := (mkF m 263 #[vi p0, vi p1, vi 1, vi 1, vr b1, vr b3, vr b5, vr b7, vr b9, vr b1, vr b1, vi 1] [(.ref b9)])) rfl (by rw [hml]; rfl) (argsL := []) (rest := []) (lenOf pd_5 rfl) rfl rfl (own_wr rfl rfl) (hb hby at_263)
  obtain ⟨rfl, N42q, e42⟩ := hQ42
  have N42 := Fr.app N33 N42q
  obtain ⟨_, T44, L44, X44, hQ44, st44⟩ := own_virtual X42 hx hZ hown (w39 hw) (w40 hw) (notFace_of_selects (args := #[]) (mvT hZ (w42 hw))) (w42 hw) (w41 hw) (w16 hw) (w43 hw) (by decide) (r_after0 l Z a0 hw [] b9 b1 T33.heap n0 (Nat.le_trans Z0 sz_0_10) Q33_0) e42 f43 (W := 0) (by decide) (g := (mkF m 319 #[vi p0, vi p1, vi 1, vi 1, vr b1, vr b3, vr b5, vr b7, vr b9, vr b1, vr b1, vi 1] [(.ref b1), (.ref b9)])) rfl (by rw [hml]; rfl) (argsL := [(.ref b1)]) (rest := []) (lenOf pd_2 rfl) rfl rfl (own_wr rfl rfl) (hb hby at_319)
  obtain ⟨rfl, N44q, e44⟩ := hQ44
  have N44 := Fr.app N42 N44q
  have f46 := (kFld K33 (kFld K29 (kFld K26 f27 nw0) (nwS (Or.inl (lt_ne (Nat.lt_of_lt_of_le lt_b9 sz_5_7) Q26_0)) (nwS (Or.inl (lt_ne (Nat.lt_of_lt_of_le lt_b9 sz_5_7) Q26_0)) nw0))) (nwS (Or.inl (Ne.symm (lt_ne (Nat.lt_of_lt_of_le lt_b1 sz_1_4) ge_b9))) (nwS (Or.inr (sn_3 hw)) (nwS (Or.inl (Ne.symm (lt_ne lt_b7 ge_b9))) (nwS (Or.inl (Ne.symm (lt_ne lt_b7 ge_b9))) (nwS (Or.inr (sn_4 hw)) nw0))))))
  obtain ⟨_, T45, L45, X45, hQ45, st45⟩ := own_virtual X44 hx hZ hown (w46 hw) (w47 hw) (notFace_of_selects (args := #[]) (mvT hZ (w49 hw))) (w49 hw) (w48 hw) (w16 hw) (w50 hw) (by decide) (r_iter1 l Z a0 hw [] b9 b1 T33.heap n0 (Nat.le_trans Z0 sz_0_10) f46) e44 f43 (W := 0) (by decide) (g := (mkF m 327 #[vi p0, vi p1, vi 1, vi 1, vr b1, vr b3, vr b5, vr b7, vr b9, vr b1, vr b1, vi 1] [(.ref b9)])) rfl (by rw [hml]; rfl) (argsL := []) (rest := []) (lenOf pd_6 rfl) rfl rfl (own_wr rfl rfl) (hb hby at_327)
  obtain ⟨b1_45, rfl, N45q, K45, Q45_0, Q45_1, Q45_2, Q45_3, Q45_4⟩ := hQ45
  have N45 := Fr.app N44 N45q
  have f49 := (kExa K45 f43)
  have f50 := (kFld K45 Q33_0 nw0)
  have sz_1_8 := (Nat.le_trans sz_1_7 K26.1)
  have sz_1_9 := (Nat.le_trans sz_1_8 K29.1)
  have sz_1_10 := (Nat.le_trans sz_1_9 K33.1)
  have sz_0_11 := (Nat.le_trans sz_0_10 K45.1)
  obtain ⟨_, T48, L48, X48, hQ48, st48⟩ := own_face X45 hx hZ hown (w63 hw) (w64 hw) (mvT hZ (w65 hw)) (w66 hw) (w67 hw) (w68 hw) (w69 hw) (w70 hw) (w53 hw) (w71 hw) (by decide) (r_nextb0 l Z a0 hw [] b1_45 b1 .null b9 T45.heap n0 (Nat.le_trans Z0 sz_0_11) Q45_1 Q45_3 Q45_4 Q45_2 f49 f50 (Nat.le_trans Z0 (Nat.le_trans sz_0_10 Q45_0)) (Ne.symm (lt_ne (Nat.lt_of_lt_of_le lt_b1 sz_1_10) Q45_0))) rfl Q45_1 (W := 0) (by decide) (g := (mkF m 330 #[vi p0, vi p1, vi 1, vi 1, vr b1, vr b3, vr b5, vr b7, vr b9, vr b1, vr b1, vi 1] [(.ref b1_45)])) rfl (by rw [hml]; rfl) (argsL := []) (rest := []) (lenOf pd_7 rfl) rfl rfl (own_wr rfl rfl) (hb hby at_330)
  obtain ⟨rfl, N48q, K48, Q48_0, Q48_1⟩ := hQ48
  have N48 := Fr.app N45 N48q
  refine ⟨T48, _, some (.int 1), X48, (fun h => by cases h <;> rfl), ?_, fun fs hr => ?_⟩
  · show Q_law n0 _ _
    exact ⟨rfl, N48⟩
  · refine t_iloadN 1 X0.here hx (hb hby at_0) rfl rfl ?_
    refine t_iconst 2 (r := 3) X0.here hx (hb hby at_1) (by decide) rfl ?_
    refine t_iand 3 (r := 1) X0.here hx (hb hby at_2) hk rfl ?_
    refine t_istoreN (pc' := 4) (L' := #[vi p0, vi p1, vi 1, .unset, .unset, .unset, .unset, .unset, .unset, .unset, .unset, .unset]) X0.here hx (hb hby at_3) rfl rfl ?_
    refine t_iloadN 5 X0.here hx (hb hby at_4) rfl rfl ?_
    refine t_iconst 6 (r := 1) X0.here hx (hb hby at_5) (by decide) rfl ?_
    refine t_iand 7 (r := 1) X0.here hx (hb hby at_6) hm rfl ?_
    refine t_ifNo 10 X0.here hx (hb hby at_7) (by decide) rfl ?_
    refine t_iconst 11 (r := 1) X0.here hx (hb hby at_10) (by decide) rfl ?_
    refine t_goto (pc := 11) 15 X0.here hx (hb hby at_11) (by decide) (by decide) ?_
    refine t_istoreN (pc' := 16) (L' := #[vi p0, vi p1, vi 1, vi 1, .unset, .unset, .unset, .unset, .unset, .unset, .unset, .unset]) X0.here hx (hb hby at_15) rfl rfl ?_
    refine st1 _ ?_
    refine t_dup 20 X1.here hx (hb hby at_19) rfl rfl ?_
    refine st2 _ ?_
    refine t_astore (pc' := 25) (L' := #[vi p0, vi p1, vi 1, vi 1, vr b1, .unset, .unset, .unset, .unset, .unset, .unset, .unset]) X2.here hx (hb hby at_23) rfl rfl rfl ?_
    refine st3 _ ?_
    refine t_dup 29 X3.here hx (hb hby at_28) rfl rfl ?_
    refine st4 _ ?_
    refine t_astore (pc' := 34) (L' := #[vi p0, vi p1, vi 1, vi 1, vr b1, vr b3, .unset, .unset, .unset, .unset, .unset, .unset]) X4.here hx (hb hby at_32) rfl rfl rfl ?_
    refine st5 _ ?_
    refine t_dup 38 X5.here hx (hb hby at_37) rfl rfl ?_
    refine st6 _ ?_
    refine t_astore (pc' := 43) (L' := #[vi p0, vi p1, vi 1, vi 1, vr b1, vr b3, vr b5, .unset, .unset, .unset, .unset, .unset]) X6.here hx (hb hby at_41) rfl rfl rfl ?_
    refine st7 _ ?_
    refine t_dup 47 X7.here hx (hb hby at_46) rfl rfl ?_
    refine st8 _ ?_
    refine t_astore (pc' := 52) (L' := #[vi p0, vi p1, vi 1, vi 1, vr b1, vr b3, vr b5, vr b7, .unset, .unset, .unset, .unset]) X8.here hx (hb hby at_50) rfl rfl rfl ?_
    refine st9 _ ?_
    refine t_dup 56 X9.here hx (hb hby at_55) rfl rfl ?_
    refine st10 _ ?_
    refine t_astore (pc' := 61) (L' := #[vi p0, vi p1, vi 1, vi 1, vr b1, vr b3, vr b5, vr b7, vr b9, .unset, .unset, .unset]) X10.here hx (hb hby at_59) rfl rfl rfl ?_
    refine t_iloadN 62 X10.here hx (hb hby at_61) rfl rfl ?_
    refine t_iconst 63 (r := 1) X10.here hx (hb hby at_62) (by decide) rfl ?_
    refine t_icmpNo 66 X10.here hx (hb hby at_63) (by decide) rfl ?_
    refine t_aload 68 X10.here hx (hb hby at_66) rfl rfl rfl ?_
    refine t_aload 70 X10.here hx (hb hby at_68) rfl rfl rfl ?_
    refine st11 _ ?_
    refine t_iloadN 74 X11.here hx (hb hby at_73) rfl rfl ?_
    refine t_iconst 75 (r := 2) X11.here hx (hb hby at_74) (by decide) rfl ?_
    refine t_icmpYes (pc := 75) 85 X11.here hx (hb hby at_75) (by decide) (by decide) (by decide) ?_
    refine t_iloadN 86 X11.here hx (hb hby at_85) rfl rfl ?_
    refine t_iconst 87 (r := 3) X11.here hx (hb hby at_86) (by decide) rfl ?_
    refine t_icmpYes (pc := 87) 97 X11.here hx (hb hby at_87) (by decide) (by decide) (by decide) ?_
    refine t_iloadN 98 X11.here hx (hb hby at_97) rfl rfl ?_
    refine t_ifYes (pc := 98) 105 X11.here hx (hb hby at_98) (by decide) (by decide) (by decide) ?_
    refine t_iloadN 106 X11.here hx (hb hby at_105) rfl rfl ?_
    refine t_iconst 107 (r := 1) X11.here hx (hb hby at_106) (by decide) rfl ?_
    refine t_icmpNo 110 X11.here hx (hb hby at_107) (by decide) rfl ?_
    refine t_aload 112 X11.here hx (hb hby at_110) rfl rfl rfl ?_
    refine t_goto (pc := 112) 127 X11.here hx (hb hby at_112) (by decide) (by decide) ?_
    refine t_astore (pc' := 129) (L' := #[vi p0, vi p1, vi 1, vi 1, vr b1, vr b3, vr b5, vr b7, vr b9, vr b1, .unset, .unset]) X11.here hx (hb hby at_127) rfl rfl rfl ?_
    refine t_iloadN 130 X11.here hx (hb hby at_129) rfl rfl ?_
    refine t_ifYes (pc := 130) 138 X11.here hx (hb hby at_130) (by decide) (by decide) (by decide) ?_
    refine t_aload 140 X11.here hx (hb hby at_138) rfl rfl rfl ?_
    refine t_astore (pc' := 142) (L' := #[vi p0, vi p1, vi 1, vi 1, vr b1, vr b3, vr b5, vr b7, vr b9, vr b1, vr b1, .unset]) X11.here hx (hb hby at_140) rfl rfl rfl ?_
    refine t_aload 144 X11.here hx (hb hby at_142) rfl rfl rfl ?_
    refine t_aload 146 X11.here hx (hb hby at_144) rfl rfl rfl ?_
    refine st14 _ ?_
    refine t_aload 151 X14.here hx (hb hby at_149) rfl rfl rfl ?_
    refine st20 _ ?_
    refine t_iloadN 155 X20.here hx (hb hby at_154) rfl rfl ?_
    refine t_iconst 156 (r := 1) X20.here hx (hb hby at_155) (by decide) rfl ?_
    refine t_iadd 157 (r := 2) X20.here hx (hb hby at_156) (by decide : ((1 : Int32) + (1 : Int32)) = (2 : Int32)) rfl ?_
    refine t_icmpNo 160 X20.here hx (hb hby at_157) (by decide) rfl ?_
    refine t_iconst 161 (r := 1) X20.here hx (hb hby at_160) (by decide) rfl ?_
    refine t_goto (pc := 161) 165 X20.here hx (hb hby at_161) (by decide) (by decide) ?_
    refine t_istore (pc' := 167) (L' := #[vi p0, vi p1, vi 1, vi 1, vr b1, vr b3, vr b5, vr b7, vr b9, vr b1, vr b1, vi 1]) X20.here hx (hb hby at_165) rfl rfl ?_
    refine t_iload 169 X20.here hx (hb hby at_167) rfl rfl ?_
    refine t_ifNo 172 X20.here hx (hb hby at_169) (by decide) rfl ?_
    refine t_aload 174 X20.here hx (hb hby at_172) rfl rfl rfl ?_
    refine t_aload 176 X20.here hx (hb hby at_174) rfl rfl rfl ?_
    refine st22 _ ?_
    refine t_ifnonnullNo 182 X22.here hx (hb hby at_179) rfl ?_
    refine t_iconst 183 (r := 1) X22.here hx (hb hby at_182) (by decide) rfl ?_
    refine t_goto (pc := 183) 187 X22.here hx (hb hby at_183) (by decide) (by decide) ?_
    refine t_istore (pc' := 189) (L' := #[vi p0, vi p1, vi 1, vi 1, vr b1, vr b3, vr b5, vr b7, vr b9, vr b1, vr b1, vi 1]) X22.here hx (hb hby at_187) rfl rfl ?_
    refine t_iload 191 X22.here hx (hb hby at_189) rfl rfl ?_
    refine t_ifNo 194 X22.here hx (hb hby at_191) (by decide) rfl ?_
    refine t_aload 196 X22.here hx (hb hby at_194) rfl rfl rfl ?_
    refine t_ifnullNo 199 X22.here hx (hb hby at_196) rfl ?_
    refine t_aload 201 X22.here hx (hb hby at_199) rfl rfl rfl ?_
    refine t_aload 203 X22.here hx (hb hby at_201) rfl rfl rfl ?_
    refine st24 _ ?_
    refine t_aload 208 X24.here hx (hb hby at_206) rfl rfl rfl ?_
    refine Jvm.RoadKit.acmp (g := (mkF m 208 #[vi p0, vi p1, vi 1, vi 1, vr b1, vr b3, vr b5, vr b7, vr b9, vr b1, vr b1, vi 1] [(.ref b7), (.ref b7)])) X24 hx rfl rfl rfl (pc0 := 208) (pc' := 211) (same := true) rfl (hb hby at_208) rfl (decide_eq_true rfl) (by decide) (by decide) ?_
    refine t_iconst 212 (r := 1) X24.here hx (hb hby at_211) (by decide) rfl ?_
    refine t_goto (pc := 212) 216 X24.here hx (hb hby at_212) (by decide) (by decide) ?_
    refine t_istore (pc' := 218) (L' := #[vi p0, vi p1, vi 1, vi 1, vr b1, vr b3, vr b5, vr b7, vr b9, vr b1, vr b1, vi 1]) X24.here hx (hb hby at_216) rfl rfl ?_
    refine t_iload 220 X24.here hx (hb hby at_218) rfl rfl ?_
    refine t_ifNo 223 X24.here hx (hb hby at_220) (by decide) rfl ?_
    refine t_aload 225 X24.here hx (hb hby at_223) rfl rfl rfl ?_
    refine st26 _ ?_
    refine st29 _ ?_
    refine t_aload 235 X29.here hx (hb hby at_233) rfl rfl rfl ?_
    refine Jvm.RoadKit.acmp (g := (mkF m 235 #[vi p0, vi p1, vi 1, vi 1, vr b1, vr b3, vr b5, vr b7, vr b9, vr b1, vr b1, vi 1] [(.ref b1), (.ref b1)])) X29 hx rfl rfl rfl (pc0 := 235) (pc' := 238) (same := true) rfl (hb hby at_235) rfl (decide_eq_true rfl) (by decide) (by decide) ?_
    refine t_iconst 239 (r := 1) X29.here hx (hb hby at_238) (by decide) rfl ?_
    refine t_goto (pc := 239) 243 X29.here hx (hb hby at_239) (by decide) (by decide) ?_
    refine t_istore (pc' := 245) (L' := #[vi p0, vi p1, vi 1, vi 1, vr b1, vr b3, vr b5, vr b7, vr b9, vr b1, vr b1, vi 1]) X29.here hx (hb hby at_243) rfl rfl ?_
    refine t_iload 247 X29.here hx (hb hby at_245) rfl rfl ?_
    refine t_ifNo 250 X29.here hx (hb hby at_247) (by decide) rfl ?_
    refine t_iloadN 251 X29.here hx (hb hby at_250) rfl rfl ?_
    refine t_ifNo 254 X29.here hx (hb hby at_251) (by decide) rfl ?_
    refine t_aload 256 X29.here hx (hb hby at_254) rfl rfl rfl ?_
    refine t_aload 258 X29.here hx (hb hby at_256) rfl rfl rfl ?_
    refine st33 _ ?_
    refine t_aload 263 X33.here hx (hb hby at_261) rfl rfl rfl ?_
    refine st42 _ ?_
    refine t_iloadN 267 X42.here hx (hb hby at_266) rfl rfl ?_
    refine t_icmpNo 270 X42.here hx (hb hby at_267) (by decide) rfl ?_
    refine t_iconst 271 (r := 1) X42.here hx (hb hby at_270) (by decide) rfl ?_
    refine t_goto (pc := 271) 275 X42.here hx (hb hby at_271) (by decide) (by decide) ?_
    refine t_istore (pc' := 277) (L' := #[vi p0, vi p1, vi 1, vi 1, vr b1, vr b3, vr b5, vr b7, vr b9, vr b1, vr b1, vi 1]) X42.here hx (hb hby at_275) rfl rfl ?_
    refine t_aload 279 X42.here hx (hb hby at_277) rfl rfl rfl ?_
    refine t_ifnonnullYes (pc := 279) 310 X42.here hx (hb hby at_279) (by decide) (by decide) ?_
    refine t_iload 312 X42.here hx (hb hby at_310) rfl rfl ?_
    refine t_ifNo 315 X42.here hx (hb hby at_312) (by decide) rfl ?_
    refine t_aload 317 X42.here hx (hb hby at_315) rfl rfl rfl ?_
    refine t_aload 319 X42.here hx (hb hby at_317) rfl rfl rfl ?_
    refine st44 _ ?_
    refine t_ifnonnullNo 325 X44.here hx (hb hby at_322) rfl ?_
    refine t_aload 327 X44.here hx (hb hby at_325) rfl rfl rfl ?_
    refine st45 _ ?_
    refine st48 _ ?_
    refine t_aload 337 X48.here hx (hb hby at_335) rfl rfl rfl ?_
    refine Jvm.RoadKit.acmp (g := (mkF m 337 #[vi p0, vi p1, vi 1, vi 1, vr b1, vr b3, vr b5, vr b7, vr b9, vr b1, vr b1, vi 1] [(.ref b1), (.ref b1)])) X48 hx rfl rfl rfl (pc0 := 337) (pc' := 340) (same := true) rfl (hb hby at_337) rfl (decide_eq_true rfl) (by decide) (by decide) ?_
    refine t_iconst 341 (r := 1) X48.here hx (hb hby at_340) (by decide) rfl ?_
    refine t_goto (pc := 341) 345 X48.here hx (hb hby at_341) (by decide) (by decide) ?_
    refine t_istore (pc' := 347) (L' := #[vi p0, vi p1, vi 1, vi 1, vr b1, vr b3, vr b5, vr b7, vr b9, vr b1, vr b1, vi 1]) X48.here hx (hb hby at_345) rfl rfl ?_
    refine t_iload 349 X48.here hx (hb hby at_347) rfl rfl ?_
    exact retN X48 hx (t := .boolean) hret (by simp) (hb hby at_349) hr
theorem ef_law_2_0 (p0 p1 : Int32) (m : MethodId) : entryFrame m #[(.int p0), (.int p1)] maxLocals = mkF m 0 #[.val (.int p0), .val (.int p1), .unset, .unset, .unset, .unset, .unset, .unset, .unset, .unset, .unset, .unset] [] := by first | (simp [entryFrame, mkF, argsToLocals, Value.category, maxLocals]; done) | rfl
set_option maxRecDepth 65536 in
set_option maxHeartbeats 40000000 in
theorem law_2_0 (l : Launch) (Z : State) (a0 : Array Value) (hw : HW Z a0) (ws : List Jvm.Cond) (p0 p1 : Int32) (h0 : Heap) (n0 : Nat) (Z0 : n0 ≤ h0.size) (hk : p0 &&& (3 : Int32) = (2 : Int32)) (hm : p1 &&& (1 : Int32) = (0 : Int32)) :
    MetFree l x (head1 (Jvm.Cond.code x code maxLocals ret :: ws) room_1) (fun a U => a = #[(.int p0), (.int p1)] ∧ Z.Warmed39 U.vm ∧ U.heap = h0) (fun _ _ _ _ _ => True) (fun _ U o U' => ∃ v L, o = .returned v ∧ Q_law n0 v L ∧ FrameEnd U o U' L 24 128) := by
  refine own_law (y := x) (k := 6) (n := 14) (plainFor_of_name pn_InsertionOrderAddPinLaw273) (ef_law_2_0 p0 p1) (by decide) (by decide) ?_
  intro p e s m below meth c s₁ hx hby hml hown hnm hret hZ hh e0 X0
  have N0 := Fr.nil n0
  obtain ⟨T1, h1, X1, e1, E1, A1, D1, -, st1⟩ := newO X0 hx hZ hown (w0 hw) (w1 hw) (w2 hw) e0 (g := (mkF m 16 #[vi p0, vi p1, vi 2, vi 0, .unset, .unset, .unset, .unset, .unset, .unset, .unset, .unset] [])) rfl (hb hby at_16) (by decide) (by decide)
  obtain ⟨b1, g1⟩ : ∃ z, z = h0.size := ⟨_, rfl⟩
  rw [← g1] at A1 D1 st1
  have ge_b1 : h0.size ≤ b1 := Nat.le_of_eq g1.symm
  have K1 := KL.ofE E1
  have F_b1_before : Fd1 Z h1 b1 .null := D1 (Or.inl (w29 hw)) (ty := (.object "java/lang/Object")) (by decide)
  have F_b1_after : Fd4 Z h1 b1 .null := D1 (Or.inl (w45 hw)) (ty := (.object "java/lang/Object")) (by decide)
  obtain ⟨_, T2, L2, X2, hQ2, st2⟩ := own_init X1 hx hZ rfl hown (w3 hw) (w4 hw) (w2 hw) (w5 hw) (by decide) (r_init l Z a0 hw [] b1 h1 n0 (Nat.le_trans Z0 K1.1)) e1 (W := 1) (by decide) (g := (mkF m 20 #[vi p0, vi p1, vi 2, vi 0, .unset, .unset, .unset, .unset, .unset, .unset, .unset, .unset] [(.ref b1), (.ref b1)])) rfl (by rw [hml]; rfl) (argsL := []) (rest := [(.ref b1)]) (lenOf pd_0 rfl) rfl rfl (own_wr rfl rfl) (hb hby at_20)
  obtain ⟨rfl, N2q, e2⟩ := hQ2
  have N2 := Fr.app N0 N2q
  obtain ⟨T3, h3, X3, e3, E3, A3, D3, -, st3⟩ := newO X2 hx hZ hown (w0 hw) (w1 hw) (w2 hw) e2 (g := (mkF m 25 #[vi p0, vi p1, vi 2, vi 0, vr b1, .unset, .unset, .unset, .unset, .unset, .unset, .unset] [])) rfl (hb hby at_25) (by decide) (by decide)
  obtain ⟨b3, g3⟩ : ∃ z, z = h1.size := ⟨_, rfl⟩
  rw [← g3] at A3 D3 st3
  have ge_b3 : h1.size ≤ b3 := Nat.le_of_eq g3.symm
  have K3 := KL.ofE E3
  have F_b3_before : Fd1 Z h3 b3 .null := D3 (Or.inl (w29 hw)) (ty := (.object "java/lang/Object")) (by decide)
  have F_b3_after : Fd4 Z h3 b3 .null := D3 (Or.inl (w45 hw)) (ty := (.object "java/lang/Object")) (by decide)
  have sz_0_2 := (Nat.le_trans K1.1 K3.1)
  obtain ⟨_, T4, L4, X4, hQ4, st4⟩ := own_init X3 hx hZ rfl hown (w3 hw) (w4 hw) (w2 hw) (w5 hw) (by decide) (r_init l Z a0 hw [] b3 h3 n0 (Nat.le_trans Z0 sz_0_2)) e3 (W := 1) (by decide) (g := (mkF m 29 #[vi p0, vi p1, vi 2, vi 0, vr b1, .unset, .unset, .unset, .unset, .unset, .unset, .unset] [(.ref b3), (.ref b3)])) rfl (by rw [hml]; rfl) (argsL := []) (rest := [(.ref b3)]) (lenOf pd_0 rfl) rfl rfl (own_wr rfl rfl) (hb hby at_29)
  obtain ⟨rfl, N4q, e4⟩ := hQ4
  have N4 := Fr.app N2 N4q
  obtain ⟨T5, h5, X5, e5, E5, A5, D5, -, st5⟩ := newO X4 hx hZ hown (w0 hw) (w1 hw) (w2 hw) e4 (g := (mkF m 34 #[vi p0, vi p1, vi 2, vi 0, vr b1, vr b3, .unset, .unset, .unset, .unset, .unset, .unset] [])) rfl (hb hby at_34) (by decide) (by decide)
  obtain ⟨b5, g5⟩ : ∃ z, z = h3.size := ⟨_, rfl⟩
  rw [← g5] at A5 D5 st5
  have ge_b5 : h3.size ≤ b5 := Nat.le_of_eq g5.symm
  have K5 := KL.ofE E5
  have F_b5_before : Fd1 Z h5 b5 .null := D5 (Or.inl (w29 hw)) (ty := (.object "java/lang/Object")) (by decide)
  have F_b5_after : Fd4 Z h5 b5 .null := D5 (Or.inl (w45 hw)) (ty := (.object "java/lang/Object")) (by decide)
  have sz_0_3 := (Nat.le_trans sz_0_2 K5.1)
  obtain ⟨_, T6, L6, X6, hQ6, st6⟩ := own_init X5 hx hZ rfl hown (w3 hw) (w4 hw) (w2 hw) (w5 hw) (by decide) (r_init l Z a0 hw [] b5 h5 n0 (Nat.le_trans Z0 sz_0_3)) e5 (W := 1) (by decide) (g := (mkF m 38 #[vi p0, vi p1, vi 2, vi 0, vr b1, vr b3, .unset, .unset, .unset, .unset, .unset, .unset] [(.ref b5), (.ref b5)])) rfl (by rw [hml]; rfl) (argsL := []) (rest := [(.ref b5)]) (lenOf pd_0 rfl) rfl rfl (own_wr rfl rfl) (hb hby at_38)
  obtain ⟨rfl, N6q, e6⟩ := hQ6
  have N6 := Fr.app N4 N6q
  obtain ⟨T7, h7, X7, e7, E7, A7, D7, -, st7⟩ := newO X6 hx hZ hown (w0 hw) (w1 hw) (w2 hw) e6 (g := (mkF m 43 #[vi p0, vi p1, vi 2, vi 0, vr b1, vr b3, vr b5, .unset, .unset, .unset, .unset, .unset] [])) rfl (hb hby at_43) (by decide) (by decide)
  obtain ⟨b7, g7⟩ : ∃ z, z = h5.size := ⟨_, rfl⟩
  rw [← g7] at A7 D7 st7
  have ge_b7 : h5.size ≤ b7 := Nat.le_of_eq g7.symm
  have K7 := KL.ofE E7
  have F_b7_before : Fd1 Z h7 b7 .null := D7 (Or.inl (w29 hw)) (ty := (.object "java/lang/Object")) (by decide)
  have F_b7_after : Fd4 Z h7 b7 .null := D7 (Or.inl (w45 hw)) (ty := (.object "java/lang/Object")) (by decide)
  have sz_0_4 := (Nat.le_trans sz_0_3 K7.1)
  obtain ⟨_, T8, L8, X8, hQ8, st8⟩ := own_init X7 hx hZ rfl hown (w3 hw) (w4 hw) (w2 hw) (w5 hw) (by decide) (r_init l Z a0 hw [] b7 h7 n0 (Nat.le_trans Z0 sz_0_4)) e7 (W := 1) (by decide) (g := (mkF m 47 #[vi p0, vi p1, vi 2, vi 0, vr b1, vr b3, vr b5, .unset, .unset, .unset, .unset, .unset] [(.ref b7), (.ref b7)])) rfl (by rw [hml]; rfl) (argsL := []) (rest := [(.ref b7)]) (lenOf pd_0 rfl) rfl rfl (own_wr rfl rfl) (hb hby at_47)
  obtain ⟨rfl, N8q, e8⟩ := hQ8
  have N8 := Fr.app N6 N8q
  obtain ⟨T9, h9, X9, e9, E9, A9, D9, -, st9⟩ := newO X8 hx hZ hown (w14 hw) (w15 hw) (w16 hw) e8 (g := (mkF m 52 #[vi p0, vi p1, vi 2, vi 0, vr b1, vr b3, vr b5, vr b7, .unset, .unset, .unset, .unset] [])) rfl (hb hby at_52) (by decide) (by decide)
  obtain ⟨b9, g9⟩ : ∃ z, z = h7.size := ⟨_, rfl⟩
  rw [← g9] at A9 D9 st9
  have ge_b9 : h7.size ≤ b9 := Nat.le_of_eq g9.symm
  have K9 := KL.ofE E9
  have F_b9_last : Fd0 Z h9 b9 .null := D9 (Or.inl (w27 hw)) (ty := (.object "com/example/bourse/bourse/sim/InsertionOrder$Link")) (by decide)
  have F_b9_first : Fd2 Z h9 b9 .null := D9 (Or.inl (w31 hw)) (ty := (.object "com/example/bourse/bourse/sim/InsertionOrder$Link")) (by decide)
  have F_b9_size : Fd3 Z h9 b9 z0 := D9 (Or.inl (w33 hw)) (ty := .int) (by decide)
  have sz_0_5 := (Nat.le_trans sz_0_4 K9.1)
  obtain ⟨_, T10, L10, X10, hQ10, st10⟩ := own_init X9 hx hZ rfl hown (w17 hw) (w18 hw) (w16 hw) (w19 hw) (by decide) (r_oinit l Z a0 hw [] b9 h9 n0 (Nat.le_trans Z0 sz_0_5)) e9 (W := 1) (by decide) (g := (mkF m 56 #[vi p0, vi p1, vi 2, vi 0, vr b1, vr b3, vr b5, vr b7, .unset, .unset, .unset, .unset] [(.ref b9), (.ref b9)])) rfl (by rw [hml]; rfl) (argsL := []) (rest := [(.ref b9)]) (lenOf pd_0 rfl) rfl rfl (own_wr rfl rfl) (hb hby at_56)
  obtain ⟨rfl, N10q, e10⟩ := hQ10
  have N10 := Fr.app N8 N10q
  have f12 := (kFld K9 (kFld K7 (kFld K5 (kFld K3 F_b1_before nw0) nw0) nw0) nw0)
  have f13 := (kExa K9 (kExa K7 (kExa K5 (kExa K3 A1))))
  have lt_b1 : b1 < h1.size := Exa.lt A1
  have sz_1_3 := (Nat.le_trans K3.1 K5.1)
  have sz_1_4 := (Nat.le_trans sz_1_3 K7.1)
  obtain ⟨_, T11, L11, X11, hQ11, st11⟩ := own_virtual X10 hx hZ hown (w21 hw) (w22 hw) (notFace_of_selects (args := #[]) (mvT hZ (w24 hw))) (w24 hw) (w23 hw) (w16 hw) (w25 hw) (by decide) (r_add0 l Z a0 hw [] b9 b1 .null .null (0 : Int32) h9 n0 (Nat.le_trans Z0 sz_0_5) F_b9_last f12 f13 (Nat.le_trans Z0 (Nat.le_trans (Nat.le_refl _) ge_b1)) (Ne.symm (lt_ne (Nat.lt_of_lt_of_le lt_b1 sz_1_4) ge_b9)) F_b9_first A9 (Nat.le_trans Z0 (Nat.le_trans sz_0_4 ge_b9)) F_b9_size) e10 A9 (W := 0) (by decide) (g := (mkF m 70 #[vi p0, vi p1, vi 2, vi 0, vr b1, vr b3, vr b5, vr b7, vr b9, .unset, .unset, .unset] [(.ref b1), (.ref b9)])) rfl (by rw [hml]; rfl) (argsL := [(.ref b1)]) (rest := []) (lenOf pd_4 rfl) rfl rfl (own_wr rfl rfl) (hb hby at_70)
  obtain ⟨rfl, N11q, K11, Q11_0, Q11_1, Q11_2, Q11_3⟩ := hQ11
  have N11 := Fr.app N10 N11q
  have Q11_3' : Fd3 Z T11.heap b9 (.int 1) := Eq.mp (congrArg (fun z => Fd3 Z T11.heap b9 (Value.int z)) (by decide : ((0 : Int32) + (1 : Int32)) = (1 : Int32))) Q11_3
  have lt_b3 : b3 < h3.size := Exa.lt A3
  have sz_2_4 := (Nat.le_trans K5.1 K7.1)
  have f15 := (kFld K11 (kFld K9 (kFld K7 (kFld K5 F_b3_before nw0) nw0) nw0) (nwS (Or.inl (Ne.symm (lt_ne lt_b1 ge_b3))) (nwM 3 rfl (lt_ne (Nat.lt_of_lt_of_le lt_b3 sz_2_4) ge_b9) nw0)))
  have f16 := (kExa K11 (kExa K9 (kExa K7 (kExa K5 A3))))
  have f17 := (kFld K11 (kFld K9 (kFld K7 (kFld K5 (kFld K3 F_b1_after nw0) nw0) nw0) nw0) (nwS (Or.inr (sn_12 hw)) (nwM 3 rfl (lt_ne (Nat.lt_of_lt_of_le lt_b1 sz_1_4) ge_b9) nw0)))
  have f18 := (kExa K11 f13)
  have f19 := (kExa K11 A9)
  have sz_0_6 := (Nat.le_trans sz_0_5 K11.1)
  obtain ⟨_, T14, L14, X14, hQ14, st14⟩ := own_virtual X11 hx hZ hown (w21 hw) (w22 hw) (notFace_of_selects (args := #[]) (mvT hZ (w24 hw))) (w24 hw) (w23 hw) (w16 hw) (w25 hw) (by decide) (r_add1 l Z a0 hw [] b9 b3 b1 .null .null (1 : Int32) T11.heap n0 (Nat.le_trans Z0 sz_0_6) Q11_2 f15 f16 (Nat.le_trans Z0 (Nat.le_trans K1.1 ge_b3)) (Ne.symm (lt_ne (Nat.lt_of_lt_of_le lt_b3 sz_2_4) ge_b9)) f17 (Ne.symm (lt_ne lt_b1 ge_b3)) f18 (Nat.le_trans Z0 (Nat.le_trans (Nat.le_refl _) ge_b1)) (Ne.symm (lt_ne (Nat.lt_of_lt_of_le lt_b1 sz_1_4) ge_b9)) f19 (Nat.le_trans Z0 (Nat.le_trans sz_0_4 ge_b9)) Q11_3') rfl f19 (W := 0) (by decide) (g := (mkF m 82 #[vi p0, vi p1, vi 2, vi 0, vr b1, vr b3, vr b5, vr b7, vr b9, .unset, .unset, .unset] [(.ref b3), (.ref b9)])) rfl (by rw [hml]; rfl) (argsL := [(.ref b3)]) (rest := []) (lenOf pd_4 rfl) rfl rfl (own_wr rfl rfl) (hb hby at_82)
  obtain ⟨rfl, N14q, K14, Q14_0, Q14_1, Q14_2, Q14_3⟩ := hQ14
  have N14 := Fr.app N11 N14q
  have Q14_3' : Fd3 Z T14.heap b9 (.int 2) := Eq.mp (congrArg (fun z => Fd3 Z T14.heap b9 (Value.int z)) (by decide : ((1 : Int32) + (1 : Int32)) = (2 : Int32))) Q14_3
  have lt_b7 : b7 < h7.size := Exa.lt A7
  have f21 := (kFld K14 (kFld K11 (kFld K9 F_b7_before nw0) (nwS (Or.inl (Ne.symm (lt_ne (Nat.lt_of_lt_of_le lt_b1 sz_1_3) ge_b7))) (nwM 3 rfl (lt_ne lt_b7 ge_b9) nw0))) (nwS (Or.inl (Ne.symm (lt_ne (Nat.lt_of_lt_of_le lt_b3 K5.1) ge_b7))) (nwS (Or.inl (Ne.symm (lt_ne (Nat.lt_of_lt_of_le lt_b1 sz_1_3) ge_b7))) (nwS (Or.inl (lt_ne lt_b7 ge_b9)) (nwS (Or.inl (lt_ne lt_b7 ge_b9)) nw0)))))
  have f22 := (kExa K14 (kExa K11 (kExa K9 A7)))
  have f23 := (kFld K14 (kFld K11 (kFld K9 (kFld K7 (kFld K5 F_b3_after nw0) nw0) nw0) (nwS (Or.inl (Ne.symm (lt_ne lt_b1 ge_b3))) (nwM 3 rfl (lt_ne (Nat.lt_of_lt_of_le lt_b3 sz_2_4) ge_b9) nw0))) (nwS (Or.inr (sn_12 hw)) (nwS (Or.inl (Ne.symm (lt_ne lt_b1 ge_b3))) (nwS (Or.inl (lt_ne (Nat.lt_of_lt_of_le lt_b3 sz_2_4) ge_b9)) (nwS (Or.inl (lt_ne (Nat.lt_of_lt_of_le lt_b3 sz_2_4) ge_b9)) nw0)))))
  have f24 := (kExa K14 f16)
  have f25 := (kExa K14 f19)
  have sz_0_7 := (Nat.le_trans sz_0_6 K14.1)
  obtain ⟨_, T20, L20, X20, hQ20, st20⟩ := own_virtual X14 hx hZ hown (w21 hw) (w22 hw) (notFace_of_selects (args := #[]) (mvT hZ (w24 hw))) (w24 hw) (w23 hw) (w16 hw) (w25 hw) (by decide) (r_add1 l Z a0 hw [] b9 b7 b3 .null .null (2 : Int32) T14.heap n0 (Nat.le_trans Z0 sz_0_7) Q14_2 f21 f22 (Nat.le_trans Z0 (Nat.le_trans sz_0_3 ge_b7)) (Ne.symm (lt_ne lt_b7 ge_b9)) f23 (Ne.symm (lt_ne (Nat.lt_of_lt_of_le lt_b3 K5.1) ge_b7)) f24 (Nat.le_trans Z0 (Nat.le_trans K1.1 ge_b3)) (Ne.symm (lt_ne (Nat.lt_of_lt_of_le lt_b3 sz_2_4) ge_b9)) f25 (Nat.le_trans Z0 (Nat.le_trans sz_0_4 ge_b9)) Q14_3') rfl f25 (W := 0) (by decide) (g := (mkF m 146 #[vi p0, vi p1, vi 2, vi 0, vr b1, vr b3, vr b5, vr b7, vr b9, vr b3, vr b1, .unset] [(.ref b7), (.ref b9)])) rfl (by rw [hml]; rfl) (argsL := [(.ref b7)]) (rest := []) (lenOf pd_4 rfl) rfl rfl (own_wr rfl rfl) (hb hby at_146)
  obtain ⟨rfl, N20q, K20, Q20_0, Q20_1, Q20_2, Q20_3⟩ := hQ20
  have N20 := Fr.app N14 N20q
  have Q20_3' : Fd3 Z T20.heap b9 (.int 3) := Eq.mp (congrArg (fun z => Fd3 Z T20.heap b9 (Value.int z)) (by decide : ((2 : Int32) + (1 : Int32)) = (3 : Int32))) Q20_3
  have sz_0_8 := (Nat.le_trans sz_0_7 K20.1)
  have f27 := (kExa K20 f25)
  obtain ⟨_, T26, L26, X26, hQ26, st26⟩ := own_virtual X20 hx hZ hown (w34 hw) (w35 hw) (notFace_of_selects (args := #[]) (mvT hZ (w37 hw))) (w37 hw) (w36 hw) (w16 hw) (w38 hw) (by decide) (r_size l Z a0 hw [] b9 (3 : Int32) T20.heap n0 (Nat.le_trans Z0 sz_0_8) Q20_3') rfl f27 (W := 0) (by decide) (g := (mkF m 151 #[vi p0, vi p1, vi 2, vi 0, vr b1, vr b3, vr b5, vr b7, vr b9, vr b3, vr b1, .unset] [(.ref b9)])) rfl (by rw [hml]; rfl) (argsL := []) (rest := []) (lenOf pd_5 rfl) rfl rfl (own_wr rfl rfl) (hb hby at_151)
  obtain ⟨rfl, N26q, e26⟩ := hQ26
  have N26 := Fr.app N20 N26q
  have f29 := (kFld K20 (kFld K14 (kFld K11 (kFld K9 F_b7_after nw0) (nwS (Or.inl (Ne.symm (lt_ne (Nat.lt_of_lt_of_le lt_b1 sz_1_3) ge_b7))) (nwM 3 rfl (lt_ne lt_b7 ge_b9) nw0))) (nwS (Or.inl (Ne.symm (lt_ne (Nat.lt_of_lt_of_le lt_b3 K5.1) ge_b7))) (nwS (Or.inl (Ne.symm (lt_ne (Nat.lt_of_lt_of_le lt_b1 sz_1_3) ge_b7))) (nwS (Or.inl (lt_ne lt_b7 ge_b9)) (nwS (Or.inl (lt_ne lt_b7 ge_b9)) nw0))))) (nwS (Or.inr (sn_12 hw)) (nwS (Or.inl (Ne.symm (lt_ne (Nat.lt_of_lt_of_le lt_b3 K5.1) ge_b7))) (nwS (Or.inl (lt_ne lt_b7 ge_b9)) (nwS (Or.inl (lt_ne lt_b7 ge_b9)) nw0)))))
  obtain ⟨_, T28, L28, X28, hQ28, st28⟩ := own_virtual X26 hx hZ hown (w39 hw) (w40 hw) (notFace_of_selects (args := #[]) (mvT hZ (w42 hw))) (w42 hw) (w41 hw) (w16 hw) (w43 hw) (by decide) (r_after0 l Z a0 hw [] b9 b7 T20.heap n0 (Nat.le_trans Z0 sz_0_8) f29) e26 f27 (W := 0) (by decide) (g := (mkF m 176 #[vi p0, vi p1, vi 2, vi 0, vr b1, vr b3, vr b5, vr b7, vr b9, vr b3, vr b1, vi 1] [(.ref b7), (.ref b9)])) rfl (by rw [hml]; rfl) (argsL := [(.ref b7)]) (rest := []) (lenOf pd_2 rfl) rfl rfl (own_wr rfl rfl) (hb hby at_176)
  obtain ⟨rfl, N28q, e28⟩ := hQ28
  have N28 := Fr.app N26 N28q
  have f31 := (kExa K20 f22)
  obtain ⟨_, T30, L30, X30, hQ30, st30⟩ := own_virtual X28 hx hZ hown (w39 hw) (w40 hw) (notFace_of_selects (args := #[]) (mvT hZ (w42 hw))) (w42 hw) (w41 hw) (w16 hw) (w43 hw) (by decide) (r_after1 l Z a0 hw [] b9 b3 b7 T20.heap n0 (Nat.le_trans Z0 sz_0_8) Q20_1 f31) e28 f27 (W := 0) (by decide) (g := (mkF m 203 #[vi p0, vi p1, vi 2, vi 0, vr b1, vr b3, vr b5, vr b7, vr b9, vr b3, vr b1, vi 1] [(.ref b3), (.ref b9)])) rfl (by rw [hml]; rfl) (argsL := [(.ref b3)]) (rest := []) (lenOf pd_2 rfl) rfl rfl (own_wr rfl rfl) (hb hby at_203)
  obtain ⟨rfl, N30q, e30⟩ := hQ30
  have N30 := Fr.app N28 N30q
  have f33 := (kFld K20 (kFld K14 Q11_1 (nwS (Or.inl (Ne.symm (lt_ne (Nat.lt_of_lt_of_le lt_b3 sz_2_4) ge_b9))) (nwS (Or.inl (Ne.symm (lt_ne (Nat.lt_of_lt_of_le lt_b1 sz_1_4) ge_b9))) (nwS (Or.inr (sn_3 hw)) (nwS (Or.inr (sn_4 hw)) nw0))))) (nwS (Or.inl (Ne.symm (lt_ne lt_b7 ge_b9))) (nwS (Or.inl (Ne.symm (lt_ne (Nat.lt_of_lt_of_le lt_b3 sz_2_4) ge_b9))) (nwS (Or.inr (sn_3 hw)) (nwS (Or.inr (sn_4 hw)) nw0)))))
  obtain ⟨_, T32, L32, X32, hQ32, st32⟩ := own_virtual X30 hx hZ hown (w46 hw) (w47 hw) (notFace_of_selects (args := #[]) (mvT hZ (w49 hw))) (w49 hw) (w48 hw) (w16 hw) (w50 hw) (by decide) (r_iter1 l Z a0 hw [] b9 b1 T20.heap n0 (Nat.le_trans Z0 sz_0_8) f33) e30 f27 (W := 0) (by decide) (g := (mkF m 225 #[vi p0, vi p1, vi 2, vi 0, vr b1, vr b3, vr b5, vr b7, vr b9, vr b3, vr b1, vi 1] [(.ref b9)])) rfl (by rw [hml]; rfl) (argsL := []) (rest := []) (lenOf pd_6 rfl) rfl rfl (own_wr rfl rfl) (hb hby at_225)
  obtain ⟨b1_32, rfl, N32q, K32, Q32_0, Q32_1, Q32_2, Q32_3, Q32_4⟩ := hQ32
  have N32 := Fr.app N30 N32q
  have f36 := (kExa K32 f27)
  have f37 := (kFld K32 (kFld K20 Q14_1 (nwS (Or.inl (lt_ne (Nat.lt_of_lt_of_le lt_b1 sz_1_3) ge_b7)) (nwS (Or.inl (lt_ne lt_b1 ge_b3)) (nwS (Or.inl (lt_ne (Nat.lt_of_lt_of_le lt_b1 sz_1_4) ge_b9)) (nwS (Or.inl (lt_ne (Nat.lt_of_lt_of_le lt_b1 sz_1_4) ge_b9)) nw0))))) nw0)
  have f38 := (kExa K32 (kExa K20 f24))
  have sz_1_5 := (Nat.le_trans sz_1_4 K9.1)
  have sz_1_6 := (Nat.le_trans sz_1_5 K11.1)
  have sz_1_7 := (Nat.le_trans sz_1_6 K14.1)
  have sz_1_8 := (Nat.le_trans sz_1_7 K20.1)
  have sz_0_9 := (Nat.le_trans sz_0_8 K32.1)
  obtain ⟨_, T35, L35, X35, hQ35, st35⟩ := own_face X32 hx hZ hown (w63 hw) (w64 hw) (mvT hZ (w65 hw)) (w66 hw) (w67 hw) (w68 hw) (w69 hw) (w70 hw) (w53 hw) (w71 hw) (by decide) (r_nextb1 l Z a0 hw [] b1_32 b1 .null b9 b3 T32.heap n0 (Nat.le_trans Z0 sz_0_9) Q32_1 Q32_3 Q32_4 Q32_2 f36 f37 f38 (Nat.le_trans Z0 (Nat.le_trans sz_0_8 Q32_0)) (Ne.symm (lt_ne (Nat.lt_of_lt_of_le lt_b1 sz_1_8) Q32_0))) rfl Q32_1 (W := 0) (by decide) (g := (mkF m 228 #[vi p0, vi p1, vi 2, vi 0, vr b1, vr b3, vr b5, vr b7, vr b9, vr b3, vr b1, vi 1] [(.ref b1_32)])) rfl (by rw [hml]; rfl) (argsL := []) (rest := []) (lenOf pd_7 rfl) rfl rfl (own_wr rfl rfl) (hb hby at_228)
  obtain ⟨rfl, N35q, K35, Q35_0, Q35_1⟩ := hQ35
  have N35 := Fr.app N32 N35q
  refine ⟨T35, _, some (.int 1), X35, (fun h => by cases h <;> rfl), ?_, fun fs hr => ?_⟩
  · show Q_law n0 _ _
    exact ⟨rfl, N35⟩
  · refine t_iloadN 1 X0.here hx (hb hby at_0) rfl rfl ?_
    refine t_iconst 2 (r := 3) X0.here hx (hb hby at_1) (by decide) rfl ?_
    refine t_iand 3 (r := 2) X0.here hx (hb hby at_2) hk rfl ?_
    refine t_istoreN (pc' := 4) (L' := #[vi p0, vi p1, vi 2, .unset, .unset, .unset, .unset, .unset, .unset, .unset, .unset, .unset]) X0.here hx (hb hby at_3) rfl rfl ?_
    refine t_iloadN 5 X0.here hx (hb hby at_4) rfl rfl ?_
    refine t_iconst 6 (r := 1) X0.here hx (hb hby at_5) (by decide) rfl ?_
    refine t_iand 7 (r := 0) X0.here hx (hb hby at_6) hm rfl ?_
    refine t_ifYes (pc := 7) 14 X0.here hx (hb hby at_7) (by decide) (by decide) (by decide) ?_
    refine t_iconst 15 (r := 0) X0.here hx (hb hby at_14) (by decide) rfl ?_
    refine t_istoreN (pc' := 16) (L' := #[vi p0, vi p1, vi 2, vi 0, .unset, .unset, .unset, .unset, .unset, .unset, .unset, .unset]) X0.here hx (hb hby at_15) rfl rfl ?_
    refine st1 _ ?_
    refine t_dup 20 X1.here hx (hb hby at_19) rfl rfl ?_
    refine st2 _ ?_
    refine t_astore (pc' := 25) (L' := #[vi p0, vi p1, vi 2, vi 0, vr b1, .unset, .unset, .unset, .unset, .unset, .unset, .unset]) X2.here hx (hb hby at_23) rfl rfl rfl ?_
    refine st3 _ ?_
    refine t_dup 29 X3.here hx (hb hby at_28) rfl rfl ?_
    refine st4 _ ?_
    refine t_astore (pc' := 34) (L' := #[vi p0, vi p1, vi 2, vi 0, vr b1, vr b3, .unset, .unset, .unset, .unset, .unset, .unset]) X4.here hx (hb hby at_32) rfl rfl rfl ?_
    refine st5 _ ?_
    refine t_dup 38 X5.here hx (hb hby at_37) rfl rfl ?_
    refine st6 _ ?_
    refine t_astore (pc' := 43) (L' := #[vi p0, vi p1, vi 2, vi 0, vr b1, vr b3, vr b5, .unset, .unset, .unset, .unset, .unset]) X6.here hx (hb hby at_41) rfl rfl rfl ?_
    refine st7 _ ?_
    refine t_dup 47 X7.here hx (hb hby at_46) rfl rfl ?_
    refine st8 _ ?_
    refine t_astore (pc' := 52) (L' := #[vi p0, vi p1, vi 2, vi 0, vr b1, vr b3, vr b5, vr b7, .unset, .unset, .unset, .unset]) X8.here hx (hb hby at_50) rfl rfl rfl ?_
    refine st9 _ ?_
    refine t_dup 56 X9.here hx (hb hby at_55) rfl rfl ?_
    refine st10 _ ?_
    refine t_astore (pc' := 61) (L' := #[vi p0, vi p1, vi 2, vi 0, vr b1, vr b3, vr b5, vr b7, vr b9, .unset, .unset, .unset]) X10.here hx (hb hby at_59) rfl rfl rfl ?_
    refine t_iloadN 62 X10.here hx (hb hby at_61) rfl rfl ?_
    refine t_iconst 63 (r := 1) X10.here hx (hb hby at_62) (by decide) rfl ?_
    refine t_icmpNo 66 X10.here hx (hb hby at_63) (by decide) rfl ?_
    refine t_aload 68 X10.here hx (hb hby at_66) rfl rfl rfl ?_
    refine t_aload 70 X10.here hx (hb hby at_68) rfl rfl rfl ?_
    refine st11 _ ?_
    refine t_iloadN 74 X11.here hx (hb hby at_73) rfl rfl ?_
    refine t_iconst 75 (r := 2) X11.here hx (hb hby at_74) (by decide) rfl ?_
    refine t_icmpNo 78 X11.here hx (hb hby at_75) (by decide) rfl ?_
    refine t_aload 80 X11.here hx (hb hby at_78) rfl rfl rfl ?_
    refine t_aload 82 X11.here hx (hb hby at_80) rfl rfl rfl ?_
    refine st14 _ ?_
    refine t_iloadN 86 X14.here hx (hb hby at_85) rfl rfl ?_
    refine t_iconst 87 (r := 3) X14.here hx (hb hby at_86) (by decide) rfl ?_
    refine t_icmpYes (pc := 87) 97 X14.here hx (hb hby at_87) (by decide) (by decide) (by decide) ?_
    refine t_iloadN 98 X14.here hx (hb hby at_97) rfl rfl ?_
    refine t_ifYes (pc := 98) 105 X14.here hx (hb hby at_98) (by decide) (by decide) (by decide) ?_
    refine t_iloadN 106 X14.here hx (hb hby at_105) rfl rfl ?_
    refine t_iconst 107 (r := 1) X14.here hx (hb hby at_106) (by decide) rfl ?_
    refine t_icmpYes (pc := 107) 115 X14.here hx (hb hby at_107) (by decide) (by decide) (by decide) ?_
    refine t_iloadN 116 X14.here hx (hb hby at_115) rfl rfl ?_
    refine t_iconst 117 (r := 2) X14.here hx (hb hby at_116) (by decide) rfl ?_
    refine t_icmpNo 120 X14.here hx (hb hby at_117) (by decide) rfl ?_
    refine t_aload 122 X14.here hx (hb hby at_120) rfl rfl rfl ?_
    refine t_goto (pc := 122) 127 X14.here hx (hb hby at_122) (by decide) (by decide) ?_
    refine t_astore (pc' := 129) (L' := #[vi p0, vi p1, vi 2, vi 0, vr b1, vr b3, vr b5, vr b7, vr b9, vr b3, .unset, .unset]) X14.here hx (hb hby at_127) rfl rfl rfl ?_
    refine t_iloadN 130 X14.here hx (hb hby at_129) rfl rfl ?_
    refine t_ifYes (pc := 130) 138 X14.here hx (hb hby at_130) (by decide) (by decide) (by decide) ?_
    refine t_aload 140 X14.here hx (hb hby at_138) rfl rfl rfl ?_
    refine t_astore (pc' := 142) (L' := #[vi p0, vi p1, vi 2, vi 0, vr b1, vr b3, vr b5, vr b7, vr b9, vr b3, vr b1, .unset]) X14.here hx (hb hby at_140) rfl rfl rfl ?_
    refine t_aload 144 X14.here hx (hb hby at_142) rfl rfl rfl ?_
    refine t_aload 146 X14.here hx (hb hby at_144) rfl rfl rfl ?_
    refine st20 _ ?_
    refine t_aload 151 X20.here hx (hb hby at_149) rfl rfl rfl ?_
    refine st26 _ ?_
    refine t_iloadN 155 X26.here hx (hb hby at_154) rfl rfl ?_
    refine t_iconst 156 (r := 1) X26.here hx (hb hby at_155) (by decide) rfl ?_
    refine t_iadd 157 (r := 3) X26.here hx (hb hby at_156) (by decide : ((2 : Int32) + (1 : Int32)) = (3 : Int32)) rfl ?_
    refine t_icmpNo 160 X26.here hx (hb hby at_157) (by decide) rfl ?_
    refine t_iconst 161 (r := 1) X26.here hx (hb hby at_160) (by decide) rfl ?_
    refine t_goto (pc := 161) 165 X26.here hx (hb hby at_161) (by decide) (by decide) ?_
    refine t_istore (pc' := 167) (L' := #[vi p0, vi p1, vi 2, vi 0, vr b1, vr b3, vr b5, vr b7, vr b9, vr b3, vr b1, vi 1]) X26.here hx (hb hby at_165) rfl rfl ?_
    refine t_iload 169 X26.here hx (hb hby at_167) rfl rfl ?_
    refine t_ifNo 172 X26.here hx (hb hby at_169) (by decide) rfl ?_
    refine t_aload 174 X26.here hx (hb hby at_172) rfl rfl rfl ?_
    refine t_aload 176 X26.here hx (hb hby at_174) rfl rfl rfl ?_
    refine st28 _ ?_
    refine t_ifnonnullNo 182 X28.here hx (hb hby at_179) rfl ?_
    refine t_iconst 183 (r := 1) X28.here hx (hb hby at_182) (by decide) rfl ?_
    refine t_goto (pc := 183) 187 X28.here hx (hb hby at_183) (by decide) (by decide) ?_
    refine t_istore (pc' := 189) (L' := #[vi p0, vi p1, vi 2, vi 0, vr b1, vr b3, vr b5, vr b7, vr b9, vr b3, vr b1, vi 1]) X28.here hx (hb hby at_187) rfl rfl ?_
    refine t_iload 191 X28.here hx (hb hby at_189) rfl rfl ?_
    refine t_ifNo 194 X28.here hx (hb hby at_191) (by decide) rfl ?_
    refine t_aload 196 X28.here hx (hb hby at_194) rfl rfl rfl ?_
    refine t_ifnullNo 199 X28.here hx (hb hby at_196) rfl ?_
    refine t_aload 201 X28.here hx (hb hby at_199) rfl rfl rfl ?_
    refine t_aload 203 X28.here hx (hb hby at_201) rfl rfl rfl ?_
    refine st30 _ ?_
    refine t_aload 208 X30.here hx (hb hby at_206) rfl rfl rfl ?_
    refine Jvm.RoadKit.acmp (g := (mkF m 208 #[vi p0, vi p1, vi 2, vi 0, vr b1, vr b3, vr b5, vr b7, vr b9, vr b3, vr b1, vi 1] [(.ref b7), (.ref b7)])) X30 hx rfl rfl rfl (pc0 := 208) (pc' := 211) (same := true) rfl (hb hby at_208) rfl (decide_eq_true rfl) (by decide) (by decide) ?_
    refine t_iconst 212 (r := 1) X30.here hx (hb hby at_211) (by decide) rfl ?_
    refine t_goto (pc := 212) 216 X30.here hx (hb hby at_212) (by decide) (by decide) ?_
    refine t_istore (pc' := 218) (L' := #[vi p0, vi p1, vi 2, vi 0, vr b1, vr b3, vr b5, vr b7, vr b9, vr b3, vr b1, vi 1]) X30.here hx (hb hby at_216) rfl rfl ?_
    refine t_iload 220 X30.here hx (hb hby at_218) rfl rfl ?_
    refine t_ifNo 223 X30.here hx (hb hby at_220) (by decide) rfl ?_
    refine t_aload 225 X30.here hx (hb hby at_223) rfl rfl rfl ?_
    refine st32 _ ?_
    refine st35 _ ?_
    refine t_aload 235 X35.here hx (hb hby at_233) rfl rfl rfl ?_
    refine Jvm.RoadKit.acmp (g := (mkF m 235 #[vi p0, vi p1, vi 2, vi 0, vr b1, vr b3, vr b5, vr b7, vr b9, vr b3, vr b1, vi 1] [(.ref b1), (.ref b1)])) X35 hx rfl rfl rfl (pc0 := 235) (pc' := 238) (same := true) rfl (hb hby at_235) rfl (decide_eq_true rfl) (by decide) (by decide) ?_
    refine t_iconst 239 (r := 1) X35.here hx (hb hby at_238) (by decide) rfl ?_
    refine t_goto (pc := 239) 243 X35.here hx (hb hby at_239) (by decide) (by decide) ?_
    refine t_istore (pc' := 245) (L' := #[vi p0, vi p1, vi 2, vi 0, vr b1, vr b3, vr b5, vr b7, vr b9, vr b3, vr b1, vi 1]) X35.here hx (hb hby at_243) rfl rfl ?_
    refine t_iload 247 X35.here hx (hb hby at_245) rfl rfl ?_
    refine t_ifNo 250 X35.here hx (hb hby at_247) (by decide) rfl ?_
    refine t_iloadN 251 X35.here hx (hb hby at_250) rfl rfl ?_
    refine t_ifYes (pc := 251) 347 X35.here hx (hb hby at_251) (by decide) (by decide) (by decide) ?_
    refine t_iload 349 X35.here hx (hb hby at_347) rfl rfl ?_
    exact retN X35 hx (t := .boolean) hret (by simp) (hb hby at_349) hr
theorem ef_law_2_1 (p0 p1 : Int32) (m : MethodId) : entryFrame m #[(.int p0), (.int p1)] maxLocals = mkF m 0 #[.val (.int p0), .val (.int p1), .unset, .unset, .unset, .unset, .unset, .unset, .unset, .unset, .unset, .unset] [] := by first | (simp [entryFrame, mkF, argsToLocals, Value.category, maxLocals]; done) | rfl
set_option maxRecDepth 65536 in
set_option maxHeartbeats 40000000 in
theorem law_2_1 (l : Launch) (Z : State) (a0 : Array Value) (hw : HW Z a0) (ws : List Jvm.Cond) (p0 p1 : Int32) (h0 : Heap) (n0 : Nat) (Z0 : n0 ≤ h0.size) (hk : p0 &&& (3 : Int32) = (2 : Int32)) (hm : p1 &&& (1 : Int32) = (1 : Int32)) :
    MetFree l x (head1 (Jvm.Cond.code x code maxLocals ret :: ws) room_1) (fun a U => a = #[(.int p0), (.int p1)] ∧ Z.Warmed39 U.vm ∧ U.heap = h0) (fun _ _ _ _ _ => True) (fun _ U o U' => ∃ v L, o = .returned v ∧ Q_law n0 v L ∧ FrameEnd U o U' L 24 128) := by
  refine own_law (y := x) (k := 7) (n := 17) (plainFor_of_name pn_InsertionOrderAddPinLaw273) (ef_law_2_1 p0 p1) (by decide) (by decide) ?_
  intro p e s m below meth c s₁ hx hby hml hown hnm hret hZ hh e0 X0
  have N0 := Fr.nil n0
  obtain ⟨T1, h1, X1, e1, E1, A1, D1, -, st1⟩ := newO X0 hx hZ hown (w0 hw) (w1 hw) (w2 hw) e0 (g := (mkF m 16 #[vi p0, vi p1, vi 2, vi 1, .unset, .unset, .unset, .unset, .unset, .unset, .unset, .unset] [])) rfl (hb hby at_16) (by decide) (by decide)
  obtain ⟨b1, g1⟩ : ∃ z, z = h0.size := ⟨_, rfl⟩
  rw [← g1] at A1 D1 st1
  have ge_b1 : h0.size ≤ b1 := Nat.le_of_eq g1.symm
  have K1 := KL.ofE E1
  have F_b1_before : Fd1 Z h1 b1 .null := D1 (Or.inl (w29 hw)) (ty := (.object "java/lang/Object")) (by decide)
  have F_b1_after : Fd4 Z h1 b1 .null := D1 (Or.inl (w45 hw)) (ty := (.object "java/lang/Object")) (by decide)
  obtain ⟨_, T2, L2, X2, hQ2, st2⟩ := own_init X1 hx hZ rfl hown (w3 hw) (w4 hw) (w2 hw) (w5 hw) (by decide) (r_init l Z a0 hw [] b1 h1 n0 (Nat.le_trans Z0 K1.1)) e1 (W := 1) (by decide) (g := (mkF m 20 #[vi p0, vi p1, vi 2, vi 1, .unset, .unset, .unset, .unset, .unset, .unset, .unset, .unset] [(.ref b1), (.ref b1)])) rfl (by rw [hml]; rfl) (argsL := []) (rest := [(.ref b1)]) (lenOf pd_0 rfl) rfl rfl (own_wr rfl rfl) (hb hby at_20)
  obtain ⟨rfl, N2q, e2⟩ := hQ2
  have N2 := Fr.app N0 N2q
  obtain ⟨T3, h3, X3, e3, E3, A3, D3, -, st3⟩ := newO X2 hx hZ hown (w0 hw) (w1 hw) (w2 hw) e2 (g := (mkF m 25 #[vi p0, vi p1, vi 2, vi 1, vr b1, .unset, .unset, .unset, .unset, .unset, .unset, .unset] [])) rfl (hb hby at_25) (by decide) (by decide)
  obtain ⟨b3, g3⟩ : ∃ z, z = h1.size := ⟨_, rfl⟩
  rw [← g3] at A3 D3 st3
  have ge_b3 : h1.size ≤ b3 := Nat.le_of_eq g3.symm
  have K3 := KL.ofE E3
  have F_b3_before : Fd1 Z h3 b3 .null := D3 (Or.inl (w29 hw)) (ty := (.object "java/lang/Object")) (by decide)
  have F_b3_after : Fd4 Z h3 b3 .null := D3 (Or.inl (w45 hw)) (ty := (.object "java/lang/Object")) (by decide)
  have sz_0_2 := (Nat.le_trans K1.1 K3.1)
  obtain ⟨_, T4, L4, X4, hQ4, st4⟩ := own_init X3 hx hZ rfl hown (w3 hw) (w4 hw) (w2 hw) (w5 hw) (by decide) (r_init l Z a0 hw [] b3 h3 n0 (Nat.le_trans Z0 sz_0_2)) e3 (W := 1) (by decide) (g := (mkF m 29 #[vi p0, vi p1, vi 2, vi 1, vr b1, .unset, .unset, .unset, .unset, .unset, .unset, .unset] [(.ref b3), (.ref b3)])) rfl (by rw [hml]; rfl) (argsL := []) (rest := [(.ref b3)]) (lenOf pd_0 rfl) rfl rfl (own_wr rfl rfl) (hb hby at_29)
  obtain ⟨rfl, N4q, e4⟩ := hQ4
  have N4 := Fr.app N2 N4q
  obtain ⟨T5, h5, X5, e5, E5, A5, D5, -, st5⟩ := newO X4 hx hZ hown (w0 hw) (w1 hw) (w2 hw) e4 (g := (mkF m 34 #[vi p0, vi p1, vi 2, vi 1, vr b1, vr b3, .unset, .unset, .unset, .unset, .unset, .unset] [])) rfl (hb hby at_34) (by decide) (by decide)
  obtain ⟨b5, g5⟩ : ∃ z, z = h3.size := ⟨_, rfl⟩
  rw [← g5] at A5 D5 st5
  have ge_b5 : h3.size ≤ b5 := Nat.le_of_eq g5.symm
  have K5 := KL.ofE E5
  have F_b5_before : Fd1 Z h5 b5 .null := D5 (Or.inl (w29 hw)) (ty := (.object "java/lang/Object")) (by decide)
  have F_b5_after : Fd4 Z h5 b5 .null := D5 (Or.inl (w45 hw)) (ty := (.object "java/lang/Object")) (by decide)
  have sz_0_3 := (Nat.le_trans sz_0_2 K5.1)
  obtain ⟨_, T6, L6, X6, hQ6, st6⟩ := own_init X5 hx hZ rfl hown (w3 hw) (w4 hw) (w2 hw) (w5 hw) (by decide) (r_init l Z a0 hw [] b5 h5 n0 (Nat.le_trans Z0 sz_0_3)) e5 (W := 1) (by decide) (g := (mkF m 38 #[vi p0, vi p1, vi 2, vi 1, vr b1, vr b3, .unset, .unset, .unset, .unset, .unset, .unset] [(.ref b5), (.ref b5)])) rfl (by rw [hml]; rfl) (argsL := []) (rest := [(.ref b5)]) (lenOf pd_0 rfl) rfl rfl (own_wr rfl rfl) (hb hby at_38)
  obtain ⟨rfl, N6q, e6⟩ := hQ6
  have N6 := Fr.app N4 N6q
  obtain ⟨T7, h7, X7, e7, E7, A7, D7, -, st7⟩ := newO X6 hx hZ hown (w0 hw) (w1 hw) (w2 hw) e6 (g := (mkF m 43 #[vi p0, vi p1, vi 2, vi 1, vr b1, vr b3, vr b5, .unset, .unset, .unset, .unset, .unset] [])) rfl (hb hby at_43) (by decide) (by decide)
  obtain ⟨b7, g7⟩ : ∃ z, z = h5.size := ⟨_, rfl⟩
  rw [← g7] at A7 D7 st7
  have ge_b7 : h5.size ≤ b7 := Nat.le_of_eq g7.symm
  have K7 := KL.ofE E7
  have F_b7_before : Fd1 Z h7 b7 .null := D7 (Or.inl (w29 hw)) (ty := (.object "java/lang/Object")) (by decide)
  have F_b7_after : Fd4 Z h7 b7 .null := D7 (Or.inl (w45 hw)) (ty := (.object "java/lang/Object")) (by decide)
  have sz_0_4 := (Nat.le_trans sz_0_3 K7.1)
  obtain ⟨_, T8, L8, X8, hQ8, st8⟩ := own_init X7 hx hZ rfl hown (w3 hw) (w4 hw) (w2 hw) (w5 hw) (by decide) (r_init l Z a0 hw [] b7 h7 n0 (Nat.le_trans Z0 sz_0_4)) e7 (W := 1) (by decide) (g := (mkF m 47 #[vi p0, vi p1, vi 2, vi 1, vr b1, vr b3, vr b5, .unset, .unset, .unset, .unset, .unset] [(.ref b7), (.ref b7)])) rfl (by rw [hml]; rfl) (argsL := []) (rest := [(.ref b7)]) (lenOf pd_0 rfl) rfl rfl (own_wr rfl rfl) (hb hby at_47)
  obtain ⟨rfl, N8q, e8⟩ := hQ8
  have N8 := Fr.app N6 N8q
  obtain ⟨T9, h9, X9, e9, E9, A9, D9, -, st9⟩ := newO X8 hx hZ hown (w14 hw) (w15 hw) (w16 hw) e8 (g := (mkF m 52 #[vi p0, vi p1, vi 2, vi 1, vr b1, vr b3, vr b5, vr b7, .unset, .unset, .unset, .unset] [])) rfl (hb hby at_52) (by decide) (by decide)
  obtain ⟨b9, g9⟩ : ∃ z, z = h7.size := ⟨_, rfl⟩
  rw [← g9] at A9 D9 st9
  have ge_b9 : h7.size ≤ b9 := Nat.le_of_eq g9.symm
  have K9 := KL.ofE E9
  have F_b9_last : Fd0 Z h9 b9 .null := D9 (Or.inl (w27 hw)) (ty := (.object "com/example/bourse/bourse/sim/InsertionOrder$Link")) (by decide)
  have F_b9_first : Fd2 Z h9 b9 .null := D9 (Or.inl (w31 hw)) (ty := (.object "com/example/bourse/bourse/sim/InsertionOrder$Link")) (by decide)
  have F_b9_size : Fd3 Z h9 b9 z0 := D9 (Or.inl (w33 hw)) (ty := .int) (by decide)
  have sz_0_5 := (Nat.le_trans sz_0_4 K9.1)
  obtain ⟨_, T10, L10, X10, hQ10, st10⟩ := own_init X9 hx hZ rfl hown (w17 hw) (w18 hw) (w16 hw) (w19 hw) (by decide) (r_oinit l Z a0 hw [] b9 h9 n0 (Nat.le_trans Z0 sz_0_5)) e9 (W := 1) (by decide) (g := (mkF m 56 #[vi p0, vi p1, vi 2, vi 1, vr b1, vr b3, vr b5, vr b7, .unset, .unset, .unset, .unset] [(.ref b9), (.ref b9)])) rfl (by rw [hml]; rfl) (argsL := []) (rest := [(.ref b9)]) (lenOf pd_0 rfl) rfl rfl (own_wr rfl rfl) (hb hby at_56)
  obtain ⟨rfl, N10q, e10⟩ := hQ10
  have N10 := Fr.app N8 N10q
  have f12 := (kFld K9 (kFld K7 (kFld K5 (kFld K3 F_b1_before nw0) nw0) nw0) nw0)
  have f13 := (kExa K9 (kExa K7 (kExa K5 (kExa K3 A1))))
  have lt_b1 : b1 < h1.size := Exa.lt A1
  have sz_1_3 := (Nat.le_trans K3.1 K5.1)
  have sz_1_4 := (Nat.le_trans sz_1_3 K7.1)
  obtain ⟨_, T11, L11, X11, hQ11, st11⟩ := own_virtual X10 hx hZ hown (w21 hw) (w22 hw) (notFace_of_selects (args := #[]) (mvT hZ (w24 hw))) (w24 hw) (w23 hw) (w16 hw) (w25 hw) (by decide) (r_add0 l Z a0 hw [] b9 b1 .null .null (0 : Int32) h9 n0 (Nat.le_trans Z0 sz_0_5) F_b9_last f12 f13 (Nat.le_trans Z0 (Nat.le_trans (Nat.le_refl _) ge_b1)) (Ne.symm (lt_ne (Nat.lt_of_lt_of_le lt_b1 sz_1_4) ge_b9)) F_b9_first A9 (Nat.le_trans Z0 (Nat.le_trans sz_0_4 ge_b9)) F_b9_size) e10 A9 (W := 0) (by decide) (g := (mkF m 70 #[vi p0, vi p1, vi 2, vi 1, vr b1, vr b3, vr b5, vr b7, vr b9, .unset, .unset, .unset] [(.ref b1), (.ref b9)])) rfl (by rw [hml]; rfl) (argsL := [(.ref b1)]) (rest := []) (lenOf pd_4 rfl) rfl rfl (own_wr rfl rfl) (hb hby at_70)
  obtain ⟨rfl, N11q, K11, Q11_0, Q11_1, Q11_2, Q11_3⟩ := hQ11
  have N11 := Fr.app N10 N11q
  have Q11_3' : Fd3 Z T11.heap b9 (.int 1) := Eq.mp (congrArg (fun z => Fd3 Z T11.heap b9 (Value.int z)) (by decide : ((0 : Int32) + (1 : Int32)) = (1 : Int32))) Q11_3
  have lt_b3 : b3 < h3.size := Exa.lt A3
  have sz_2_4 := (Nat.le_trans K5.1 K7.1)
  have f15 := (kFld K11 (kFld K9 (kFld K7 (kFld K5 F_b3_before nw0) nw0) nw0) (nwS (Or.inl (Ne.symm (lt_ne lt_b1 ge_b3))) (nwM 3 rfl (lt_ne (Nat.lt_of_lt_of_le lt_b3 sz_2_4) ge_b9) nw0)))
  have f16 := (kExa K11 (kExa K9 (kExa K7 (kExa K5 A3))))
  have f17 := (kFld K11 (kFld K9 (kFld K7 (kFld K5 (kFld K3 F_b1_after nw0) nw0) nw0) nw0) (nwS (Or.inr (sn_12 hw)) (nwM 3 rfl (lt_ne (Nat.lt_of_lt_of_le lt_b1 sz_1_4) ge_b9) nw0)))
  have f18 := (kExa K11 f13)
  have f19 := (kExa K11 A9)
  have sz_0_6 := (Nat.le_trans sz_0_5 K11.1)
  obtain ⟨_, T14, L14, X14, hQ14, st14⟩ := own_virtual X11 hx hZ hown (w21 hw) (w22 hw) (notFace_of_selects (args := #[]) (mvT hZ (w24 hw))) (w24 hw) (w23 hw) (w16 hw) (w25 hw) (by decide) (r_add1 l Z a0 hw [] b9 b3 b1 .null .null (1 : Int32) T11.heap n0 (Nat.le_trans Z0 sz_0_6) Q11_2 f15 f16 (Nat.le_trans Z0 (Nat.le_trans K1.1 ge_b3)) (Ne.symm (lt_ne (Nat.lt_of_lt_of_le lt_b3 sz_2_4) ge_b9)) f17 (Ne.symm (lt_ne lt_b1 ge_b3)) f18 (Nat.le_trans Z0 (Nat.le_trans (Nat.le_refl _) ge_b1)) (Ne.symm (lt_ne (Nat.lt_of_lt_of_le lt_b1 sz_1_4) ge_b9)) f19 (Nat.le_trans Z0 (Nat.le_trans sz_0_4 ge_b9)) Q11_3') rfl f19 (W := 0) (by decide) (g := (mkF m 82 #[vi p0, vi p1, vi 2, vi 1, vr b1, vr b3, vr b5, vr b7, vr b9, .unset, .unset, .unset] [(.ref b3), (.ref b9)])) rfl (by rw [hml]; rfl) (argsL := [(.ref b3)]) (rest := []) (lenOf pd_4 rfl) rfl rfl (own_wr rfl rfl) (hb hby at_82)
  obtain ⟨rfl, N14q, K14, Q14_0, Q14_1, Q14_2, Q14_3⟩ := hQ14
  have N14 := Fr.app N11 N14q
  have Q14_3' : Fd3 Z T14.heap b9 (.int 2) := Eq.mp (congrArg (fun z => Fd3 Z T14.heap b9 (Value.int z)) (by decide : ((1 : Int32) + (1 : Int32)) = (2 : Int32))) Q14_3
  have lt_b7 : b7 < h7.size := Exa.lt A7
  have f21 := (kFld K14 (kFld K11 (kFld K9 F_b7_before nw0) (nwS (Or.inl (Ne.symm (lt_ne (Nat.lt_of_lt_of_le lt_b1 sz_1_3) ge_b7))) (nwM 3 rfl (lt_ne lt_b7 ge_b9) nw0))) (nwS (Or.inl (Ne.symm (lt_ne (Nat.lt_of_lt_of_le lt_b3 K5.1) ge_b7))) (nwS (Or.inl (Ne.symm (lt_ne (Nat.lt_of_lt_of_le lt_b1 sz_1_3) ge_b7))) (nwS (Or.inl (lt_ne lt_b7 ge_b9)) (nwS (Or.inl (lt_ne lt_b7 ge_b9)) nw0)))))
  have f22 := (kExa K14 (kExa K11 (kExa K9 A7)))
  have f23 := (kFld K14 (kFld K11 (kFld K9 (kFld K7 (kFld K5 F_b3_after nw0) nw0) nw0) (nwS (Or.inl (Ne.symm (lt_ne lt_b1 ge_b3))) (nwM 3 rfl (lt_ne (Nat.lt_of_lt_of_le lt_b3 sz_2_4) ge_b9) nw0))) (nwS (Or.inr (sn_12 hw)) (nwS (Or.inl (Ne.symm (lt_ne lt_b1 ge_b3))) (nwS (Or.inl (lt_ne (Nat.lt_of_lt_of_le lt_b3 sz_2_4) ge_b9)) (nwS (Or.inl (lt_ne (Nat.lt_of_lt_of_le lt_b3 sz_2_4) ge_b9)) nw0)))))
  have f24 := (kExa K14 f16)
  have f25 := (kExa K14 f19)
  have sz_0_7 := (Nat.le_trans sz_0_6 K14.1)
  obtain ⟨_, T20, L20, X20, hQ20, st20⟩ := own_virtual X14 hx hZ hown (w21 hw) (w22 hw) (notFace_of_selects (args := #[]) (mvT hZ (w24 hw))) (w24 hw) (w23 hw) (w16 hw) (w25 hw) (by decide) (r_add1 l Z a0 hw [] b9 b7 b3 .null .null (2 : Int32) T14.heap n0 (Nat.le_trans Z0 sz_0_7) Q14_2 f21 f22 (Nat.le_trans Z0 (Nat.le_trans sz_0_3 ge_b7)) (Ne.symm (lt_ne lt_b7 ge_b9)) f23 (Ne.symm (lt_ne (Nat.lt_of_lt_of_le lt_b3 K5.1) ge_b7)) f24 (Nat.le_trans Z0 (Nat.le_trans K1.1 ge_b3)) (Ne.symm (lt_ne (Nat.lt_of_lt_of_le lt_b3 sz_2_4) ge_b9)) f25 (Nat.le_trans Z0 (Nat.le_trans sz_0_4 ge_b9)) Q14_3') rfl f25 (W := 0) (by decide) (g := (mkF m 146 #[vi p0, vi p1, vi 2, vi 1, vr b1, vr b3, vr b5, vr b7, vr b9, vr b3, vr b1, .unset] [(.ref b7), (.ref b9)])) rfl (by rw [hml]; rfl) (argsL := [(.ref b7)]) (rest := []) (lenOf pd_4 rfl) rfl rfl (own_wr rfl rfl) (hb hby at_146)
  obtain ⟨rfl, N20q, K20, Q20_0, Q20_1, Q20_2, Q20_3⟩ := hQ20
  have N20 := Fr.app N14 N20q
  have Q20_3' : Fd3 Z T20.heap b9 (.int 3) := Eq.mp (congrArg (fun z => Fd3 Z T20.heap b9 (Value.int z)) (by decide : ((2 : Int32) + (1 : Int32)) = (3 : Int32))) Q20_3
  have sz_0_8 := (Nat.le_trans sz_0_7 K20.1)
  have f27 := (kExa K20 f25)
  obtain ⟨_, T26, L26, X26, hQ26, st26⟩ := own_virtual X20 hx hZ hown (w34 hw) (w35 hw) (notFace_of_selects (args := #[]) (mvT hZ (w37 hw))) (w37 hw) (w36 hw) (w16 hw) (w38 hw) (by decide) (r_size l Z a0 hw [] b9 (3 : Int32) T20.heap n0 (Nat.le_trans Z0 sz_0_8) Q20_3') rfl f27 (W := 0) (by decide) (g := (mkF m 151 #[vi p0, vi p1, vi 2, vi 1, vr b1, vr b3, vr b5, vr b7, vr b9, vr b3, vr b1, .unset] [(.ref b9)])) rfl (by rw [hml]; rfl) (argsL := []) (rest := []) (lenOf pd_5 rfl) rfl rfl (own_wr rfl rfl) (hb hby at_151)
  obtain ⟨rfl, N26q, e26⟩ := hQ26
  have N26 := Fr.app N20 N26q
  have f29 := (kFld K20 (kFld K14 (kFld K11 (kFld K9 F_b7_after nw0) (nwS (Or.inl (Ne.symm (lt_ne (Nat.lt_of_lt_of_le lt_b1 sz_1_3) ge_b7))) (nwM 3 rfl (lt_ne lt_b7 ge_b9) nw0))) (nwS (Or.inl (Ne.symm (lt_ne (Nat.lt_of_lt_of_le lt_b3 K5.1) ge_b7))) (nwS (Or.inl (Ne.symm (lt_ne (Nat.lt_of_lt_of_le lt_b1 sz_1_3) ge_b7))) (nwS (Or.inl (lt_ne lt_b7 ge_b9)) (nwS (Or.inl (lt_ne lt_b7 ge_b9)) nw0))))) (nwS (Or.inr (sn_12 hw)) (nwS (Or.inl (Ne.symm (lt_ne (Nat.lt_of_lt_of_le lt_b3 K5.1) ge_b7))) (nwS (Or.inl (lt_ne lt_b7 ge_b9)) (nwS (Or.inl (lt_ne lt_b7 ge_b9)) nw0)))))
  obtain ⟨_, T28, L28, X28, hQ28, st28⟩ := own_virtual X26 hx hZ hown (w39 hw) (w40 hw) (notFace_of_selects (args := #[]) (mvT hZ (w42 hw))) (w42 hw) (w41 hw) (w16 hw) (w43 hw) (by decide) (r_after0 l Z a0 hw [] b9 b7 T20.heap n0 (Nat.le_trans Z0 sz_0_8) f29) e26 f27 (W := 0) (by decide) (g := (mkF m 176 #[vi p0, vi p1, vi 2, vi 1, vr b1, vr b3, vr b5, vr b7, vr b9, vr b3, vr b1, vi 1] [(.ref b7), (.ref b9)])) rfl (by rw [hml]; rfl) (argsL := [(.ref b7)]) (rest := []) (lenOf pd_2 rfl) rfl rfl (own_wr rfl rfl) (hb hby at_176)
  obtain ⟨rfl, N28q, e28⟩ := hQ28
  have N28 := Fr.app N26 N28q
  have f31 := (kExa K20 f22)
  obtain ⟨_, T30, L30, X30, hQ30, st30⟩ := own_virtual X28 hx hZ hown (w39 hw) (w40 hw) (notFace_of_selects (args := #[]) (mvT hZ (w42 hw))) (w42 hw) (w41 hw) (w16 hw) (w43 hw) (by decide) (r_after1 l Z a0 hw [] b9 b3 b7 T20.heap n0 (Nat.le_trans Z0 sz_0_8) Q20_1 f31) e28 f27 (W := 0) (by decide) (g := (mkF m 203 #[vi p0, vi p1, vi 2, vi 1, vr b1, vr b3, vr b5, vr b7, vr b9, vr b3, vr b1, vi 1] [(.ref b3), (.ref b9)])) rfl (by rw [hml]; rfl) (argsL := [(.ref b3)]) (rest := []) (lenOf pd_2 rfl) rfl rfl (own_wr rfl rfl) (hb hby at_203)
  obtain ⟨rfl, N30q, e30⟩ := hQ30
  have N30 := Fr.app N28 N30q
  have f33 := (kFld K20 (kFld K14 Q11_1 (nwS (Or.inl (Ne.symm (lt_ne (Nat.lt_of_lt_of_le lt_b3 sz_2_4) ge_b9))) (nwS (Or.inl (Ne.symm (lt_ne (Nat.lt_of_lt_of_le lt_b1 sz_1_4) ge_b9))) (nwS (Or.inr (sn_3 hw)) (nwS (Or.inr (sn_4 hw)) nw0))))) (nwS (Or.inl (Ne.symm (lt_ne lt_b7 ge_b9))) (nwS (Or.inl (Ne.symm (lt_ne (Nat.lt_of_lt_of_le lt_b3 sz_2_4) ge_b9))) (nwS (Or.inr (sn_3 hw)) (nwS (Or.inr (sn_4 hw)) nw0)))))
  obtain ⟨_, T32, L32, X32, hQ32, st32⟩ := own_virtual X30 hx hZ hown (w46 hw) (w47 hw) (notFace_of_selects (args := #[]) (mvT hZ (w49 hw))) (w49 hw) (w48 hw) (w16 hw) (w50 hw) (by decide) (r_iter1 l Z a0 hw [] b9 b1 T20.heap n0 (Nat.le_trans Z0 sz_0_8) f33) e30 f27 (W := 0) (by decide) (g := (mkF m 225 #[vi p0, vi p1, vi 2, vi 1, vr b1, vr b3, vr b5, vr b7, vr b9, vr b3, vr b1, vi 1] [(.ref b9)])) rfl (by rw [hml]; rfl) (argsL := []) (rest := []) (lenOf pd_6 rfl) rfl rfl (own_wr rfl rfl) (hb hby at_225)
  obtain ⟨b1_32, rfl, N32q, K32, Q32_0, Q32_1, Q32_2, Q32_3, Q32_4⟩ := hQ32
  have N32 := Fr.app N30 N32q
  have f36 := (kExa K32 f27)
  have f37 := (kFld K32 (kFld K20 Q14_1 (nwS (Or.inl (lt_ne (Nat.lt_of_lt_of_le lt_b1 sz_1_3) ge_b7)) (nwS (Or.inl (lt_ne lt_b1 ge_b3)) (nwS (Or.inl (lt_ne (Nat.lt_of_lt_of_le lt_b1 sz_1_4) ge_b9)) (nwS (Or.inl (lt_ne (Nat.lt_of_lt_of_le lt_b1 sz_1_4) ge_b9)) nw0))))) nw0)
  have f38 := (kExa K32 (kExa K20 f24))
  have sz_1_5 := (Nat.le_trans sz_1_4 K9.1)
  have sz_1_6 := (Nat.le_trans sz_1_5 K11.1)
  have sz_1_7 := (Nat.le_trans sz_1_6 K14.1)
  have sz_1_8 := (Nat.le_trans sz_1_7 K20.1)
  have sz_0_9 := (Nat.le_trans sz_0_8 K32.1)
  obtain ⟨_, T35, L35, X35, hQ35, st35⟩ := own_face X32 hx hZ hown (w63 hw) (w64 hw) (mvT hZ (w65 hw)) (w66 hw) (w67 hw) (w68 hw) (w69 hw) (w70 hw) (w53 hw) (w71 hw) (by decide) (r_nextb1 l Z a0 hw [] b1_32 b1 .null b9 b3 T32.heap n0 (Nat.le_trans Z0 sz_0_9) Q32_1 Q32_3 Q32_4 Q32_2 f36 f37 f38 (Nat.le_trans Z0 (Nat.le_trans sz_0_8 Q32_0)) (Ne.symm (lt_ne (Nat.lt_of_lt_of_le lt_b1 sz_1_8) Q32_0))) rfl Q32_1 (W := 0) (by decide) (g := (mkF m 228 #[vi p0, vi p1, vi 2, vi 1, vr b1, vr b3, vr b5, vr b7, vr b9, vr b3, vr b1, vi 1] [(.ref b1_32)])) rfl (by rw [hml]; rfl) (argsL := []) (rest := []) (lenOf pd_7 rfl) rfl rfl (own_wr rfl rfl) (hb hby at_228)
  obtain ⟨rfl, N35q, K35, Q35_0, Q35_1⟩ := hQ35
  have N35 := Fr.app N32 N35q
  have sz_4_6 := (Nat.le_trans K9.1 K11.1)
  have sz_4_7 := (Nat.le_trans sz_4_6 K14.1)
  have sz_4_8 := (Nat.le_trans sz_4_7 K20.1)
  have f40 := (kFld K35 (kFld K32 Q20_0 nw0) (nwS (Or.inl (lt_ne (Nat.lt_of_lt_of_le lt_b7 sz_4_8) Q32_0)) (nwS (Or.inl (lt_ne (Nat.lt_of_lt_of_le lt_b7 sz_4_8) Q32_0)) nw0)))
  have f41 := (kExa K35 f38)
  have f42 := (kFld K35 (kFld K32 f29 nw0) (nwS (Or.inl (lt_ne (Nat.lt_of_lt_of_le lt_b7 sz_4_8) Q32_0)) (nwS (Or.inl (lt_ne (Nat.lt_of_lt_of_le lt_b7 sz_4_8) Q32_0)) nw0)))
  have sz_2_5 := (Nat.le_trans sz_2_4 K9.1)
  have sz_2_6 := (Nat.le_trans sz_2_5 K11.1)
  have sz_2_7 := (Nat.le_trans sz_2_6 K14.1)
  have sz_2_8 := (Nat.le_trans sz_2_7 K20.1)
  have f43 := (kFld K35 (kFld K32 Q20_1 nw0) (nwS (Or.inl (lt_ne (Nat.lt_of_lt_of_le lt_b3 sz_2_8) Q32_0)) (nwS (Or.inl (lt_ne (Nat.lt_of_lt_of_le lt_b3 sz_2_8) Q32_0)) nw0)))
  have lt_b9 : b9 < h9.size := Exa.lt A9
  have sz_5_7 := (Nat.le_trans K11.1 K14.1)
  have sz_5_8 := (Nat.le_trans sz_5_7 K20.1)
  have f44 := (kFld K35 (kFld K32 Q20_2 nw0) (nwS (Or.inl (lt_ne (Nat.lt_of_lt_of_le lt_b9 sz_5_8) Q32_0)) (nwS (Or.inl (lt_ne (Nat.lt_of_lt_of_le lt_b9 sz_5_8) Q32_0)) nw0)))
  have f45 := (kExa K35 f36)
  have f46 := (kExa K35 (kExa K32 f31))
  have f47 := (kFld K35 (kFld K32 Q20_3' nw0) (nwS (Or.inl (lt_ne (Nat.lt_of_lt_of_le lt_b9 sz_5_8) Q32_0)) (nwS (Or.inl (lt_ne (Nat.lt_of_lt_of_le lt_b9 sz_5_8) Q32_0)) nw0)))
  have sz_0_10 := (Nat.le_trans sz_0_9 K35.1)
  obtain ⟨_, T39, L39, X39, hQ39, st39⟩ := own_virtual X35 hx hZ hown (w80 hw) (w81 hw) (notFace_of_selects (args := #[]) (mvT hZ (w83 hw))) (w83 hw) (w82 hw) (w16 hw) (w84 hw) (by decide) (r_rem1 l Z a0 hw [] b9 b7 b3 (.ref b7) (.ref b7) (3 : Int32) T35.heap n0 (Nat.le_trans Z0 sz_0_10) f40 f41 f42 f43 (Nat.le_trans Z0 (Nat.le_trans K1.1 ge_b3)) (Ne.symm (lt_ne (Nat.lt_of_lt_of_le lt_b3 K5.1) ge_b7)) f44 (Ne.symm (lt_ne (Nat.lt_of_lt_of_le lt_b3 sz_2_4) ge_b9)) f45 (Nat.le_trans Z0 (Nat.le_trans sz_0_4 ge_b9)) (Ne.symm (lt_ne lt_b7 ge_b9)) f46 (Nat.le_trans Z0 (Nat.le_trans sz_0_3 ge_b7)) f47) rfl f45 (W := 0) (by decide) (g := (mkF m 258 #[vi p0, vi p1, vi 2, vi 1, vr b1, vr b3, vr b5, vr b7, vr b9, vr b3, vr b1, vi 1] [(.ref b7), (.ref b9)])) rfl (by rw [hml]; rfl) (argsL := [(.ref b7)]) (rest := []) (lenOf pd_4 rfl) rfl rfl (own_wr rfl rfl) (hb hby at_258)
  obtain ⟨rfl, N39q, K39, Q39_0, Q39_1, Q39_2, Q39_3, Q39_4⟩ := hQ39
  have N39 := Fr.app N35 N39q
  have Q39_4' : Fd3 Z T39.heap b9 (.int 2) := Eq.mp (congrArg (fun z => Fd3 Z T39.heap b9 (Value.int z)) (by decide : ((3 : Int32) - (1 : Int32)) = (2 : Int32))) Q39_4
  have sz_0_11 := (Nat.le_trans sz_0_10 K39.1)
  have f49 := (kExa K39 f45)
  obtain ⟨_, T48, L48, X48, hQ48, st48⟩ := own_virtual X39 hx hZ hown (w34 hw) (w35 hw) (notFace_of_selects (args := #[]) (mvT hZ (w37 hw))) (w37 hw) (w36 hw) (w16 hw) (w38 hw) (by decide) (r_size l Z a0 hw [] b9 (2 : Int32) T39.heap n0 (Nat.le_trans Z0 sz_0_11) Q39_4') rfl f49 (W := 0) (by decide) (g := (mkF m 263 #[vi p0, vi p1, vi 2, vi 1, vr b1, vr b3, vr b5, vr b7, vr b9, vr b3, vr b1, vi 1] [(.ref b9)])) rfl (by rw [hml]; rfl) (argsL := []) (rest := []) (lenOf pd_5 rfl) rfl rfl (own_wr rfl rfl) (hb hby at_263)
  obtain ⟨rfl, N48q, e48⟩ := hQ48
  have N48 := Fr.app N39 N48q
  obtain ⟨_, T50, L50, X50, hQ50, st50⟩ := own_virtual X48 hx hZ hown (w39 hw) (w40 hw) (notFace_of_selects (args := #[]) (mvT hZ (w42 hw))) (w42 hw) (w41 hw) (w16 hw) (w43 hw) (by decide) (r_after0 l Z a0 hw [] b9 b3 T39.heap n0 (Nat.le_trans Z0 sz_0_11) Q39_0) e48 f49 (W := 0) (by decide) (g := (mkF m 319 #[vi p0, vi p1, vi 2, vi 1, vr b1, vr b3, vr b5, vr b7, vr b9, vr b3, vr b1, vi 1] [(.ref b3), (.ref b9)])) rfl (by rw [hml]; rfl) (argsL := [(.ref b3)]) (rest := []) (lenOf pd_2 rfl) rfl rfl (own_wr rfl rfl) (hb hby at_319)
  obtain ⟨rfl, N50q, e50⟩ := hQ50
  have N50 := Fr.app N48 N50q
  have f52 := (kFld K39 (kFld K35 (kFld K32 f33 nw0) (nwS (Or.inl (lt_ne (Nat.lt_of_lt_of_le lt_b9 sz_5_8) Q32_0)) (nwS (Or.inl (lt_ne (Nat.lt_of_lt_of_le lt_b9 sz_5_8) Q32_0)) nw0))) (nwS (Or.inl (Ne.symm (lt_ne (Nat.lt_of_lt_of_le lt_b3 sz_2_4) ge_b9))) (nwS (Or.inr (sn_3 hw)) (nwS (Or.inl (Ne.symm (lt_ne lt_b7 ge_b9))) (nwS (Or.inl (Ne.symm (lt_ne lt_b7 ge_b9))) (nwS (Or.inr (sn_4 hw)) nw0))))))
  obtain ⟨_, T51, L51, X51, hQ51, st51⟩ := own_virtual X50 hx hZ hown (w46 hw) (w47 hw) (notFace_of_selects (args := #[]) (mvT hZ (w49 hw))) (w49 hw) (w48 hw) (w16 hw) (w50 hw) (by decide) (r_iter1 l Z a0 hw [] b9 b1 T39.heap n0 (Nat.le_trans Z0 sz_0_11) f52) e50 f49 (W := 0) (by decide) (g := (mkF m 327 #[vi p0, vi p1, vi 2, vi 1, vr b1, vr b3, vr b5, vr b7, vr b9, vr b3, vr b1, vi 1] [(.ref b9)])) rfl (by rw [hml]; rfl) (argsL := []) (rest := []) (lenOf pd_6 rfl) rfl rfl (own_wr rfl rfl) (hb hby at_327)
  obtain ⟨b1_51, rfl, N51q, K51, Q51_0, Q51_1, Q51_2, Q51_3, Q51_4⟩ := hQ51
  have N51 := Fr.app N50 N51q
  have f55 := (kExa K51 f49)
  have f56 := (kFld K51 (kFld K39 (kFld K35 f37 (nwS (Or.inl (lt_ne (Nat.lt_of_lt_of_le lt_b1 sz_1_8) Q32_0)) (nwS (Or.inl (lt_ne (Nat.lt_of_lt_of_le lt_b1 sz_1_8) Q32_0)) nw0))) (nwS (Or.inl (lt_ne lt_b1 ge_b3)) (nwS (Or.inl (lt_ne (Nat.lt_of_lt_of_le lt_b1 sz_1_4) ge_b9)) (nwS (Or.inl (lt_ne (Nat.lt_of_lt_of_le lt_b1 sz_1_3) ge_b7)) (nwS (Or.inl (lt_ne (Nat.lt_of_lt_of_le lt_b1 sz_1_3) ge_b7)) (nwS (Or.inl (lt_ne (Nat.lt_of_lt_of_le lt_b1 sz_1_4) ge_b9)) nw0)))))) nw0)
  have f57 := (kExa K51 (kExa K39 f41))
  have sz_1_9 := (Nat.le_trans sz_1_8 K32.1)
  have sz_1_10 := (Nat.le_trans sz_1_9 K35.1)
  have sz_1_11 := (Nat.le_trans sz_1_10 K39.1)
  have sz_0_12 := (Nat.le_trans sz_0_11 K51.1)
  obtain ⟨_, T54, L54, X54, hQ54, st54⟩ := own_face X51 hx hZ hown (w63 hw) (w64 hw) (mvT hZ (w65 hw)) (w66 hw) (w67 hw) (w68 hw) (w69 hw) (w70 hw) (w53 hw) (w71 hw) (by decide) (r_nextb1 l Z a0 hw [] b1_51 b1 .null b9 b3 T51.heap n0 (Nat.le_trans Z0 sz_0_12) Q51_1 Q51_3 Q51_4 Q51_2 f55 f56 f57 (Nat.le_trans Z0 (Nat.le_trans sz_0_11 Q51_0)) (Ne.symm (lt_ne (Nat.lt_of_lt_of_le lt_b1 sz_1_11) Q51_0))) rfl Q51_1 (W := 0) (by decide) (g := (mkF m 330 #[vi p0, vi p1, vi 2, vi 1, vr b1, vr b3, vr b5, vr b7, vr b9, vr b3, vr b1, vi 1] [(.ref b1_51)])) rfl (by rw [hml]; rfl) (argsL := []) (rest := []) (lenOf pd_7 rfl) rfl rfl (own_wr rfl rfl) (hb hby at_330)
  obtain ⟨rfl, N54q, K54, Q54_0, Q54_1⟩ := hQ54
  have N54 := Fr.app N51 N54q
  refine ⟨T54, _, some (.int 1), X54, (fun h => by cases h <;> rfl), ?_, fun fs hr => ?_⟩
  · show Q_law n0 _ _
    exact ⟨rfl, N54⟩
  · refine t_iloadN 1 X0.here hx (hb hby at_0) rfl rfl ?_
    refine t_iconst 2 (r := 3) X0.here hx (hb hby at_1) (by decide) rfl ?_
    refine t_iand 3 (r := 2) X0.here hx (hb hby at_2) hk rfl ?_
    refine t_istoreN (pc' := 4) (L' := #[vi p0, vi p1, vi 2, .unset, .unset, .unset, .unset, .unset, .unset, .unset, .unset, .unset]) X0.here hx (hb hby at_3) rfl rfl ?_
    refine t_iloadN 5 X0.here hx (hb hby at_4) rfl rfl ?_
    refine t_iconst 6 (r := 1) X0.here hx (hb hby at_5) (by decide) rfl ?_
    refine t_iand 7 (r := 1) X0.here hx (hb hby at_6) hm rfl ?_
    refine t_ifNo 10 X0.here hx (hb hby at_7) (by decide) rfl ?_
    refine t_iconst 11 (r := 1) X0.here hx (hb hby at_10) (by decide) rfl ?_
    refine t_goto (pc := 11) 15 X0.here hx (hb hby at_11) (by decide) (by decide) ?_
    refine t_istoreN (pc' := 16) (L' := #[vi p0, vi p1, vi 2, vi 1, .unset, .unset, .unset, .unset, .unset, .unset, .unset, .unset]) X0.here hx (hb hby at_15) rfl rfl ?_
    refine st1 _ ?_
    refine t_dup 20 X1.here hx (hb hby at_19) rfl rfl ?_
    refine st2 _ ?_
    refine t_astore (pc' := 25) (L' := #[vi p0, vi p1, vi 2, vi 1, vr b1, .unset, .unset, .unset, .unset, .unset, .unset, .unset]) X2.here hx (hb hby at_23) rfl rfl rfl ?_
    refine st3 _ ?_
    refine t_dup 29 X3.here hx (hb hby at_28) rfl rfl ?_
    refine st4 _ ?_
    refine t_astore (pc' := 34) (L' := #[vi p0, vi p1, vi 2, vi 1, vr b1, vr b3, .unset, .unset, .unset, .unset, .unset, .unset]) X4.here hx (hb hby at_32) rfl rfl rfl ?_
    refine st5 _ ?_
    refine t_dup 38 X5.here hx (hb hby at_37) rfl rfl ?_
    refine st6 _ ?_
    refine t_astore (pc' := 43) (L' := #[vi p0, vi p1, vi 2, vi 1, vr b1, vr b3, vr b5, .unset, .unset, .unset, .unset, .unset]) X6.here hx (hb hby at_41) rfl rfl rfl ?_
    refine st7 _ ?_
    refine t_dup 47 X7.here hx (hb hby at_46) rfl rfl ?_
    refine st8 _ ?_
    refine t_astore (pc' := 52) (L' := #[vi p0, vi p1, vi 2, vi 1, vr b1, vr b3, vr b5, vr b7, .unset, .unset, .unset, .unset]) X8.here hx (hb hby at_50) rfl rfl rfl ?_
    refine st9 _ ?_
    refine t_dup 56 X9.here hx (hb hby at_55) rfl rfl ?_
    refine st10 _ ?_
    refine t_astore (pc' := 61) (L' := #[vi p0, vi p1, vi 2, vi 1, vr b1, vr b3, vr b5, vr b7, vr b9, .unset, .unset, .unset]) X10.here hx (hb hby at_59) rfl rfl rfl ?_
    refine t_iloadN 62 X10.here hx (hb hby at_61) rfl rfl ?_
    refine t_iconst 63 (r := 1) X10.here hx (hb hby at_62) (by decide) rfl ?_
    refine t_icmpNo 66 X10.here hx (hb hby at_63) (by decide) rfl ?_
    refine t_aload 68 X10.here hx (hb hby at_66) rfl rfl rfl ?_
    refine t_aload 70 X10.here hx (hb hby at_68) rfl rfl rfl ?_
    refine st11 _ ?_
    refine t_iloadN 74 X11.here hx (hb hby at_73) rfl rfl ?_
    refine t_iconst 75 (r := 2) X11.here hx (hb hby at_74) (by decide) rfl ?_
    refine t_icmpNo 78 X11.here hx (hb hby at_75) (by decide) rfl ?_
    refine t_aload 80 X11.here hx (hb hby at_78) rfl rfl rfl ?_
    refine t_aload 82 X11.here hx (hb hby at_80) rfl rfl rfl ?_
    refine st14 _ ?_
    refine t_iloadN 86 X14.here hx (hb hby at_85) rfl rfl ?_
    refine t_iconst 87 (r := 3) X14.here hx (hb hby at_86) (by decide) rfl ?_
    refine t_icmpYes (pc := 87) 97 X14.here hx (hb hby at_87) (by decide) (by decide) (by decide) ?_
    refine t_iloadN 98 X14.here hx (hb hby at_97) rfl rfl ?_
    refine t_ifYes (pc := 98) 105 X14.here hx (hb hby at_98) (by decide) (by decide) (by decide) ?_
    refine t_iloadN 106 X14.here hx (hb hby at_105) rfl rfl ?_
    refine t_iconst 107 (r := 1) X14.here hx (hb hby at_106) (by decide) rfl ?_
    refine t_icmpYes (pc := 107) 115 X14.here hx (hb hby at_107) (by decide) (by decide) (by decide) ?_
    refine t_iloadN 116 X14.here hx (hb hby at_115) rfl rfl ?_
    refine t_iconst 117 (r := 2) X14.here hx (hb hby at_116) (by decide) rfl ?_
    refine t_icmpNo 120 X14.here hx (hb hby at_117) (by decide) rfl ?_
    refine t_aload 122 X14.here hx (hb hby at_120) rfl rfl rfl ?_
    refine t_goto (pc := 122) 127 X14.here hx (hb hby at_122) (by decide) (by decide) ?_
    refine t_astore (pc' := 129) (L' := #[vi p0, vi p1, vi 2, vi 1, vr b1, vr b3, vr b5, vr b7, vr b9, vr b3, .unset, .unset]) X14.here hx (hb hby at_127) rfl rfl rfl ?_
    refine t_iloadN 130 X14.here hx (hb hby at_129) rfl rfl ?_
    refine t_ifYes (pc := 130) 138 X14.here hx (hb hby at_130) (by decide) (by decide) (by decide) ?_
    refine t_aload 140 X14.here hx (hb hby at_138) rfl rfl rfl ?_
    refine t_astore (pc' := 142) (L' := #[vi p0, vi p1, vi 2, vi 1, vr b1, vr b3, vr b5, vr b7, vr b9, vr b3, vr b1, .unset]) X14.here hx (hb hby at_140) rfl rfl rfl ?_
    refine t_aload 144 X14.here hx (hb hby at_142) rfl rfl rfl ?_
    refine t_aload 146 X14.here hx (hb hby at_144) rfl rfl rfl ?_
    refine st20 _ ?_
    refine t_aload 151 X20.here hx (hb hby at_149) rfl rfl rfl ?_
    refine st26 _ ?_
    refine t_iloadN 155 X26.here hx (hb hby at_154) rfl rfl ?_
    refine t_iconst 156 (r := 1) X26.here hx (hb hby at_155) (by decide) rfl ?_
    refine t_iadd 157 (r := 3) X26.here hx (hb hby at_156) (by decide : ((2 : Int32) + (1 : Int32)) = (3 : Int32)) rfl ?_
    refine t_icmpNo 160 X26.here hx (hb hby at_157) (by decide) rfl ?_
    refine t_iconst 161 (r := 1) X26.here hx (hb hby at_160) (by decide) rfl ?_
    refine t_goto (pc := 161) 165 X26.here hx (hb hby at_161) (by decide) (by decide) ?_
    refine t_istore (pc' := 167) (L' := #[vi p0, vi p1, vi 2, vi 1, vr b1, vr b3, vr b5, vr b7, vr b9, vr b3, vr b1, vi 1]) X26.here hx (hb hby at_165) rfl rfl ?_
    refine t_iload 169 X26.here hx (hb hby at_167) rfl rfl ?_
    refine t_ifNo 172 X26.here hx (hb hby at_169) (by decide) rfl ?_
    refine t_aload 174 X26.here hx (hb hby at_172) rfl rfl rfl ?_
    refine t_aload 176 X26.here hx (hb hby at_174) rfl rfl rfl ?_
    refine st28 _ ?_
    refine t_ifnonnullNo 182 X28.here hx (hb hby at_179) rfl ?_
    refine t_iconst 183 (r := 1) X28.here hx (hb hby at_182) (by decide) rfl ?_
    refine t_goto (pc := 183) 187 X28.here hx (hb hby at_183) (by decide) (by decide) ?_
    refine t_istore (pc' := 189) (L' := #[vi p0, vi p1, vi 2, vi 1, vr b1, vr b3, vr b5, vr b7, vr b9, vr b3, vr b1, vi 1]) X28.here hx (hb hby at_187) rfl rfl ?_
    refine t_iload 191 X28.here hx (hb hby at_189) rfl rfl ?_
    refine t_ifNo 194 X28.here hx (hb hby at_191) (by decide) rfl ?_
    refine t_aload 196 X28.here hx (hb hby at_194) rfl rfl rfl ?_
    refine t_ifnullNo 199 X28.here hx (hb hby at_196) rfl ?_
    refine t_aload 201 X28.here hx (hb hby at_199) rfl rfl rfl ?_
    refine t_aload 203 X28.here hx (hb hby at_201) rfl rfl rfl ?_
    refine st30 _ ?_
    refine t_aload 208 X30.here hx (hb hby at_206) rfl rfl rfl ?_
    refine Jvm.RoadKit.acmp (g := (mkF m 208 #[vi p0, vi p1, vi 2, vi 1, vr b1, vr b3, vr b5, vr b7, vr b9, vr b3, vr b1, vi 1] [(.ref b7), (.ref b7)])) X30 hx rfl rfl rfl (pc0 := 208) (pc' := 211) (same := true) rfl (hb hby at_208) rfl (decide_eq_true rfl) (by decide) (by decide) ?_
    refine t_iconst 212 (r := 1) X30.here hx (hb hby at_211) (by decide) rfl ?_
    refine t_goto (pc := 212) 216 X30.here hx (hb hby at_212) (by decide) (by decide) ?_
    refine t_istore (pc' := 218) (L' := #[vi p0, vi p1, vi 2, vi 1, vr b1, vr b3, vr b5, vr b7, vr b9, vr b3, vr b1, vi 1]) X30.here hx (hb hby at_216) rfl rfl ?_
    refine t_iload 220 X30.here hx (hb hby at_218) rfl rfl ?_
    refine t_ifNo 223 X30.here hx (hb hby at_220) (by decide) rfl ?_
    refine t_aload 225 X30.here hx (hb hby at_223) rfl rfl rfl ?_
    refine st32 _ ?_
    refine st35 _ ?_
    refine t_aload 235 X35.here hx (hb hby at_233) rfl rfl rfl ?_
    refine Jvm.RoadKit.acmp (g := (mkF m 235 #[vi p0, vi p1, vi 2, vi 1, vr b1, vr b3, vr b5, vr b7, vr b9, vr b3, vr b1, vi 1] [(.ref b1), (.ref b1)])) X35 hx rfl rfl rfl (pc0 := 235) (pc' := 238) (same := true) rfl (hb hby at_235) rfl (decide_eq_true rfl) (by decide) (by decide) ?_
    refine t_iconst 239 (r := 1) X35.here hx (hb hby at_238) (by decide) rfl ?_
    refine t_goto (pc := 239) 243 X35.here hx (hb hby at_239) (by decide) (by decide) ?_
    refine t_istore (pc' := 245) (L' := #[vi p0, vi p1, vi 2, vi 1, vr b1, vr b3, vr b5, vr b7, vr b9, vr b3, vr b1, vi 1]) X35.here hx (hb hby at_243) rfl rfl ?_
    refine t_iload 247 X35.here hx (hb hby at_245) rfl rfl ?_
    refine t_ifNo 250 X35.here hx (hb hby at_247) (by decide) rfl ?_
    refine t_iloadN 251 X35.here hx (hb hby at_250) rfl rfl ?_
    refine t_ifNo 254 X35.here hx (hb hby at_251) (by decide) rfl ?_
    refine t_aload 256 X35.here hx (hb hby at_254) rfl rfl rfl ?_
    refine t_aload 258 X35.here hx (hb hby at_256) rfl rfl rfl ?_
    refine st39 _ ?_
    refine t_aload 263 X39.here hx (hb hby at_261) rfl rfl rfl ?_
    refine st48 _ ?_
    refine t_iloadN 267 X48.here hx (hb hby at_266) rfl rfl ?_
    refine t_icmpNo 270 X48.here hx (hb hby at_267) (by decide) rfl ?_
    refine t_iconst 271 (r := 1) X48.here hx (hb hby at_270) (by decide) rfl ?_
    refine t_goto (pc := 271) 275 X48.here hx (hb hby at_271) (by decide) (by decide) ?_
    refine t_istore (pc' := 277) (L' := #[vi p0, vi p1, vi 2, vi 1, vr b1, vr b3, vr b5, vr b7, vr b9, vr b3, vr b1, vi 1]) X48.here hx (hb hby at_275) rfl rfl ?_
    refine t_aload 279 X48.here hx (hb hby at_277) rfl rfl rfl ?_
    refine t_ifnonnullYes (pc := 279) 310 X48.here hx (hb hby at_279) (by decide) (by decide) ?_
    refine t_iload 312 X48.here hx (hb hby at_310) rfl rfl ?_
    refine t_ifNo 315 X48.here hx (hb hby at_312) (by decide) rfl ?_
    refine t_aload 317 X48.here hx (hb hby at_315) rfl rfl rfl ?_
    refine t_aload 319 X48.here hx (hb hby at_317) rfl rfl rfl ?_
    refine st50 _ ?_
    refine t_ifnonnullNo 325 X50.here hx (hb hby at_322) rfl ?_
    refine t_aload 327 X50.here hx (hb hby at_325) rfl rfl rfl ?_
    refine st51 _ ?_
    refine st54 _ ?_
    refine t_aload 337 X54.here hx (hb hby at_335) rfl rfl rfl ?_
    refine Jvm.RoadKit.acmp (g := (mkF m 337 #[vi p0, vi p1, vi 2, vi 1, vr b1, vr b3, vr b5, vr b7, vr b9, vr b3, vr b1, vi 1] [(.ref b1), (.ref b1)])) X54 hx rfl rfl rfl (pc0 := 337) (pc' := 340) (same := true) rfl (hb hby at_337) rfl (decide_eq_true rfl) (by decide) (by decide) ?_
    refine t_iconst 341 (r := 1) X54.here hx (hb hby at_340) (by decide) rfl ?_
    refine t_goto (pc := 341) 345 X54.here hx (hb hby at_341) (by decide) (by decide) ?_
    refine t_istore (pc' := 347) (L' := #[vi p0, vi p1, vi 2, vi 1, vr b1, vr b3, vr b5, vr b7, vr b9, vr b3, vr b1, vi 1]) X54.here hx (hb hby at_345) rfl rfl ?_
    refine t_iload 349 X54.here hx (hb hby at_347) rfl rfl ?_
    exact retN X54 hx (t := .boolean) hret (by simp) (hb hby at_349) hr
theorem ef_law_3_0 (p0 p1 : Int32) (m : MethodId) : entryFrame m #[(.int p0), (.int p1)] maxLocals = mkF m 0 #[.val (.int p0), .val (.int p1), .unset, .unset, .unset, .unset, .unset, .unset, .unset, .unset, .unset, .unset] [] := by first | (simp [entryFrame, mkF, argsToLocals, Value.category, maxLocals]; done) | rfl
set_option maxRecDepth 65536 in
set_option maxHeartbeats 40000000 in
theorem law_3_0 (l : Launch) (Z : State) (a0 : Array Value) (hw : HW Z a0) (ws : List Jvm.Cond) (p0 p1 : Int32) (h0 : Heap) (n0 : Nat) (Z0 : n0 ≤ h0.size) (hk : p0 &&& (3 : Int32) = (3 : Int32)) (hm : p1 &&& (1 : Int32) = (0 : Int32)) :
    MetFree l x (head1 (Jvm.Cond.code x code maxLocals ret :: ws) room_1) (fun a U => a = #[(.int p0), (.int p1)] ∧ Z.Warmed39 U.vm ∧ U.heap = h0) (fun _ _ _ _ _ => True) (fun _ U o U' => ∃ v L, o = .returned v ∧ Q_law n0 v L ∧ FrameEnd U o U' L 24 128) := by
  refine own_law (y := x) (k := 6) (n := 14) (plainFor_of_name pn_InsertionOrderAddPinLaw273) (ef_law_3_0 p0 p1) (by decide) (by decide) ?_
  intro p e s m below meth c s₁ hx hby hml hown hnm hret hZ hh e0 X0
  have N0 := Fr.nil n0
  obtain ⟨T1, h1, X1, e1, E1, A1, D1, -, st1⟩ := newO X0 hx hZ hown (w0 hw) (w1 hw) (w2 hw) e0 (g := (mkF m 16 #[vi p0, vi p1, vi 3, vi 0, .unset, .unset, .unset, .unset, .unset, .unset, .unset, .unset] [])) rfl (hb hby at_16) (by decide) (by decide)
  obtain ⟨b1, g1⟩ : ∃ z, z = h0.size := ⟨_, rfl⟩
  rw [← g1] at A1 D1 st1
  have ge_b1 : h0.size ≤ b1 := Nat.le_of_eq g1.symm
  have K1 := KL.ofE E1
  have F_b1_before : Fd1 Z h1 b1 .null := D1 (Or.inl (w29 hw)) (ty := (.object "java/lang/Object")) (by decide)
  have F_b1_after : Fd4 Z h1 b1 .null := D1 (Or.inl (w45 hw)) (ty := (.object "java/lang/Object")) (by decide)
  obtain ⟨_, T2, L2, X2, hQ2, st2⟩ := own_init X1 hx hZ rfl hown (w3 hw) (w4 hw) (w2 hw) (w5 hw) (by decide) (r_init l Z a0 hw [] b1 h1 n0 (Nat.le_trans Z0 K1.1)) e1 (W := 1) (by decide) (g := (mkF m 20 #[vi p0, vi p1, vi 3, vi 0, .unset, .unset, .unset, .unset, .unset, .unset, .unset, .unset] [(.ref b1), (.ref b1)])) rfl (by rw [hml]; rfl) (argsL := []) (rest := [(.ref b1)]) (lenOf pd_0 rfl) rfl rfl (own_wr rfl rfl) (hb hby at_20)
  obtain ⟨rfl, N2q, e2⟩ := hQ2
  have N2 := Fr.app N0 N2q
  obtain ⟨T3, h3, X3, e3, E3, A3, D3, -, st3⟩ := newO X2 hx hZ hown (w0 hw) (w1 hw) (w2 hw) e2 (g := (mkF m 25 #[vi p0, vi p1, vi 3, vi 0, vr b1, .unset, .unset, .unset, .unset, .unset, .unset, .unset] [])) rfl (hb hby at_25) (by decide) (by decide)
  obtain ⟨b3, g3⟩ : ∃ z, z = h1.size := ⟨_, rfl⟩
  rw [← g3] at A3 D3 st3
  have ge_b3 : h1.size ≤ b3 := Nat.le_of_eq g3.symm
  have K3 := KL.ofE E3
  have F_b3_before : Fd1 Z h3 b3 .null := D3 (Or.inl (w29 hw)) (ty := (.object "java/lang/Object")) (by decide)
  have F_b3_after : Fd4 Z h3 b3 .null := D3 (Or.inl (w45 hw)) (ty := (.object "java/lang/Object")) (by decide)
  have sz_0_2 := (Nat.le_trans K1.1 K3.1)
  obtain ⟨_, T4, L4, X4, hQ4, st4⟩ := own_init X3 hx hZ rfl hown (w3 hw) (w4 hw) (w2 hw) (w5 hw) (by decide) (r_init l Z a0 hw [] b3 h3 n0 (Nat.le_trans Z0 sz_0_2)) e3 (W := 1) (by decide) (g := (mkF m 29 #[vi p0, vi p1, vi 3, vi 0, vr b1, .unset, .unset, .unset, .unset, .unset, .unset, .unset] [(.ref b3), (.ref b3)])) rfl (by rw [hml]; rfl) (argsL := []) (rest := [(.ref b3)]) (lenOf pd_0 rfl) rfl rfl (own_wr rfl rfl) (hb hby at_29)
  obtain ⟨rfl, N4q, e4⟩ := hQ4
  have N4 := Fr.app N2 N4q
  obtain ⟨T5, h5, X5, e5, E5, A5, D5, -, st5⟩ := newO X4 hx hZ hown (w0 hw) (w1 hw) (w2 hw) e4 (g := (mkF m 34 #[vi p0, vi p1, vi 3, vi 0, vr b1, vr b3, .unset, .unset, .unset, .unset, .unset, .unset] [])) rfl (hb hby at_34) (by decide) (by decide)
  obtain ⟨b5, g5⟩ : ∃ z, z = h3.size := ⟨_, rfl⟩
  rw [← g5] at A5 D5 st5
  have ge_b5 : h3.size ≤ b5 := Nat.le_of_eq g5.symm
  have K5 := KL.ofE E5
  have F_b5_before : Fd1 Z h5 b5 .null := D5 (Or.inl (w29 hw)) (ty := (.object "java/lang/Object")) (by decide)
  have F_b5_after : Fd4 Z h5 b5 .null := D5 (Or.inl (w45 hw)) (ty := (.object "java/lang/Object")) (by decide)
  have sz_0_3 := (Nat.le_trans sz_0_2 K5.1)
  obtain ⟨_, T6, L6, X6, hQ6, st6⟩ := own_init X5 hx hZ rfl hown (w3 hw) (w4 hw) (w2 hw) (w5 hw) (by decide) (r_init l Z a0 hw [] b5 h5 n0 (Nat.le_trans Z0 sz_0_3)) e5 (W := 1) (by decide) (g := (mkF m 38 #[vi p0, vi p1, vi 3, vi 0, vr b1, vr b3, .unset, .unset, .unset, .unset, .unset, .unset] [(.ref b5), (.ref b5)])) rfl (by rw [hml]; rfl) (argsL := []) (rest := [(.ref b5)]) (lenOf pd_0 rfl) rfl rfl (own_wr rfl rfl) (hb hby at_38)
  obtain ⟨rfl, N6q, e6⟩ := hQ6
  have N6 := Fr.app N4 N6q
  obtain ⟨T7, h7, X7, e7, E7, A7, D7, -, st7⟩ := newO X6 hx hZ hown (w0 hw) (w1 hw) (w2 hw) e6 (g := (mkF m 43 #[vi p0, vi p1, vi 3, vi 0, vr b1, vr b3, vr b5, .unset, .unset, .unset, .unset, .unset] [])) rfl (hb hby at_43) (by decide) (by decide)
  obtain ⟨b7, g7⟩ : ∃ z, z = h5.size := ⟨_, rfl⟩
  rw [← g7] at A7 D7 st7
  have ge_b7 : h5.size ≤ b7 := Nat.le_of_eq g7.symm
  have K7 := KL.ofE E7
  have F_b7_before : Fd1 Z h7 b7 .null := D7 (Or.inl (w29 hw)) (ty := (.object "java/lang/Object")) (by decide)
  have F_b7_after : Fd4 Z h7 b7 .null := D7 (Or.inl (w45 hw)) (ty := (.object "java/lang/Object")) (by decide)
  have sz_0_4 := (Nat.le_trans sz_0_3 K7.1)
  obtain ⟨_, T8, L8, X8, hQ8, st8⟩ := own_init X7 hx hZ rfl hown (w3 hw) (w4 hw) (w2 hw) (w5 hw) (by decide) (r_init l Z a0 hw [] b7 h7 n0 (Nat.le_trans Z0 sz_0_4)) e7 (W := 1) (by decide) (g := (mkF m 47 #[vi p0, vi p1, vi 3, vi 0, vr b1, vr b3, vr b5, .unset, .unset, .unset, .unset, .unset] [(.ref b7), (.ref b7)])) rfl (by rw [hml]; rfl) (argsL := []) (rest := [(.ref b7)]) (lenOf pd_0 rfl) rfl rfl (own_wr rfl rfl) (hb hby at_47)
  obtain ⟨rfl, N8q, e8⟩ := hQ8
  have N8 := Fr.app N6 N8q
  obtain ⟨T9, h9, X9, e9, E9, A9, D9, -, st9⟩ := newO X8 hx hZ hown (w14 hw) (w15 hw) (w16 hw) e8 (g := (mkF m 52 #[vi p0, vi p1, vi 3, vi 0, vr b1, vr b3, vr b5, vr b7, .unset, .unset, .unset, .unset] [])) rfl (hb hby at_52) (by decide) (by decide)
  obtain ⟨b9, g9⟩ : ∃ z, z = h7.size := ⟨_, rfl⟩
  rw [← g9] at A9 D9 st9
  have ge_b9 : h7.size ≤ b9 := Nat.le_of_eq g9.symm
  have K9 := KL.ofE E9
  have F_b9_last : Fd0 Z h9 b9 .null := D9 (Or.inl (w27 hw)) (ty := (.object "com/example/bourse/bourse/sim/InsertionOrder$Link")) (by decide)
  have F_b9_first : Fd2 Z h9 b9 .null := D9 (Or.inl (w31 hw)) (ty := (.object "com/example/bourse/bourse/sim/InsertionOrder$Link")) (by decide)
  have F_b9_size : Fd3 Z h9 b9 z0 := D9 (Or.inl (w33 hw)) (ty := .int) (by decide)
  have sz_0_5 := (Nat.le_trans sz_0_4 K9.1)
  obtain ⟨_, T10, L10, X10, hQ10, st10⟩ := own_init X9 hx hZ rfl hown (w17 hw) (w18 hw) (w16 hw) (w19 hw) (by decide) (r_oinit l Z a0 hw [] b9 h9 n0 (Nat.le_trans Z0 sz_0_5)) e9 (W := 1) (by decide) (g := (mkF m 56 #[vi p0, vi p1, vi 3, vi 0, vr b1, vr b3, vr b5, vr b7, .unset, .unset, .unset, .unset] [(.ref b9), (.ref b9)])) rfl (by rw [hml]; rfl) (argsL := []) (rest := [(.ref b9)]) (lenOf pd_0 rfl) rfl rfl (own_wr rfl rfl) (hb hby at_56)
  obtain ⟨rfl, N10q, e10⟩ := hQ10
  have N10 := Fr.app N8 N10q
  have f12 := (kFld K9 (kFld K7 (kFld K5 (kFld K3 F_b1_before nw0) nw0) nw0) nw0)
  have f13 := (kExa K9 (kExa K7 (kExa K5 (kExa K3 A1))))
  have lt_b1 : b1 < h1.size := Exa.lt A1
  have sz_1_3 := (Nat.le_trans K3.1 K5.1)
  have sz_1_4 := (Nat.le_trans sz_1_3 K7.1)
  obtain ⟨_, T11, L11, X11, hQ11, st11⟩ := own_virtual X10 hx hZ hown (w21 hw) (w22 hw) (notFace_of_selects (args := #[]) (mvT hZ (w24 hw))) (w24 hw) (w23 hw) (w16 hw) (w25 hw) (by decide) (r_add0 l Z a0 hw [] b9 b1 .null .null (0 : Int32) h9 n0 (Nat.le_trans Z0 sz_0_5) F_b9_last f12 f13 (Nat.le_trans Z0 (Nat.le_trans (Nat.le_refl _) ge_b1)) (Ne.symm (lt_ne (Nat.lt_of_lt_of_le lt_b1 sz_1_4) ge_b9)) F_b9_first A9 (Nat.le_trans Z0 (Nat.le_trans sz_0_4 ge_b9)) F_b9_size) e10 A9 (W := 0) (by decide) (g := (mkF m 70 #[vi p0, vi p1, vi 3, vi 0, vr b1, vr b3, vr b5, vr b7, vr b9, .unset, .unset, .unset] [(.ref b1), (.ref b9)])) rfl (by rw [hml]; rfl) (argsL := [(.ref b1)]) (rest := []) (lenOf pd_4 rfl) rfl rfl (own_wr rfl rfl) (hb hby at_70)
  obtain ⟨rfl, N11q, K11, Q11_0, Q11_1, Q11_2, Q11_3⟩ := hQ11
  have N11 := Fr.app N10 N11q
  have Q11_3' : Fd3 Z T11.heap b9 (.int 1) := Eq.mp (congrArg (fun z => Fd3 Z T11.heap b9 (Value.int z)) (by decide : ((0 : Int32) + (1 : Int32)) = (1 : Int32))) Q11_3
  have lt_b3 : b3 < h3.size := Exa.lt A3
  have sz_2_4 := (Nat.le_trans K5.1 K7.1)
  have f15 := (kFld K11 (kFld K9 (kFld K7 (kFld K5 F_b3_before nw0) nw0) nw0) (nwS (Or.inl (Ne.symm (lt_ne lt_b1 ge_b3))) (nwM 3 rfl (lt_ne (Nat.lt_of_lt_of_le lt_b3 sz_2_4) ge_b9) nw0)))
  have f16 := (kExa K11 (kExa K9 (kExa K7 (kExa K5 A3))))
  have f17 := (kFld K11 (kFld K9 (kFld K7 (kFld K5 (kFld K3 F_b1_after nw0) nw0) nw0) nw0) (nwS (Or.inr (sn_12 hw)) (nwM 3 rfl (lt_ne (Nat.lt_of_lt_of_le lt_b1 sz_1_4) ge_b9) nw0)))
  have f18 := (kExa K11 f13)
  have f19 := (kExa K11 A9)
  have sz_0_6 := (Nat.le_trans sz_0_5 K11.1)
  obtain ⟨_, T14, L14, X14, hQ14, st14⟩ := own_virtual X11 hx hZ hown (w21 hw) (w22 hw) (notFace_of_selects (args := #[]) (mvT hZ (w24 hw))) (w24 hw) (w23 hw) (w16 hw) (w25 hw) (by decide) (r_add1 l Z a0 hw [] b9 b3 b1 .null .null (1 : Int32) T11.heap n0 (Nat.le_trans Z0 sz_0_6) Q11_2 f15 f16 (Nat.le_trans Z0 (Nat.le_trans K1.1 ge_b3)) (Ne.symm (lt_ne (Nat.lt_of_lt_of_le lt_b3 sz_2_4) ge_b9)) f17 (Ne.symm (lt_ne lt_b1 ge_b3)) f18 (Nat.le_trans Z0 (Nat.le_trans (Nat.le_refl _) ge_b1)) (Ne.symm (lt_ne (Nat.lt_of_lt_of_le lt_b1 sz_1_4) ge_b9)) f19 (Nat.le_trans Z0 (Nat.le_trans sz_0_4 ge_b9)) Q11_3') rfl f19 (W := 0) (by decide) (g := (mkF m 82 #[vi p0, vi p1, vi 3, vi 0, vr b1, vr b3, vr b5, vr b7, vr b9, .unset, .unset, .unset] [(.ref b3), (.ref b9)])) rfl (by rw [hml]; rfl) (argsL := [(.ref b3)]) (rest := []) (lenOf pd_4 rfl) rfl rfl (own_wr rfl rfl) (hb hby at_82)
  obtain ⟨rfl, N14q, K14, Q14_0, Q14_1, Q14_2, Q14_3⟩ := hQ14
  have N14 := Fr.app N11 N14q
  have Q14_3' : Fd3 Z T14.heap b9 (.int 2) := Eq.mp (congrArg (fun z => Fd3 Z T14.heap b9 (Value.int z)) (by decide : ((1 : Int32) + (1 : Int32)) = (2 : Int32))) Q14_3
  have lt_b5 : b5 < h5.size := Exa.lt A5
  have f21 := (kFld K14 (kFld K11 (kFld K9 (kFld K7 F_b5_before nw0) nw0) (nwS (Or.inl (Ne.symm (lt_ne (Nat.lt_of_lt_of_le lt_b1 K3.1) ge_b5))) (nwM 3 rfl (lt_ne (Nat.lt_of_lt_of_le lt_b5 K7.1) ge_b9) nw0))) (nwS (Or.inl (Ne.symm (lt_ne lt_b3 ge_b5))) (nwS (Or.inl (Ne.symm (lt_ne (Nat.lt_of_lt_of_le lt_b1 K3.1) ge_b5))) (nwS (Or.inl (lt_ne (Nat.lt_of_lt_of_le lt_b5 K7.1) ge_b9)) (nwS (Or.inl (lt_ne (Nat.lt_of_lt_of_le lt_b5 K7.1) ge_b9)) nw0)))))
  have f22 := (kExa K14 (kExa K11 (kExa K9 (kExa K7 A5))))
  have f23 := (kFld K14 (kFld K11 (kFld K9 (kFld K7 (kFld K5 F_b3_after nw0) nw0) nw0) (nwS (Or.inl (Ne.symm (lt_ne lt_b1 ge_b3))) (nwM 3 rfl (lt_ne (Nat.lt_of_lt_of_le lt_b3 sz_2_4) ge_b9) nw0))) (nwS (Or.inr (sn_12 hw)) (nwS (Or.inl (Ne.symm (lt_ne lt_b1 ge_b3))) (nwS (Or.inl (lt_ne (Nat.lt_of_lt_of_le lt_b3 sz_2_4) ge_b9)) (nwS (Or.inl (lt_ne (Nat.lt_of_lt_of_le lt_b3 sz_2_4) ge_b9)) nw0)))))
  have f24 := (kExa K14 f16)
  have f25 := (kExa K14 f19)
  have sz_0_7 := (Nat.le_trans sz_0_6 K14.1)
  obtain ⟨_, T20, L20, X20, hQ20, st20⟩ := own_virtual X14 hx hZ hown (w21 hw) (w22 hw) (notFace_of_selects (args := #[]) (mvT hZ (w24 hw))) (w24 hw) (w23 hw) (w16 hw) (w25 hw) (by decide) (r_add1 l Z a0 hw [] b9 b5 b3 .null .null (2 : Int32) T14.heap n0 (Nat.le_trans Z0 sz_0_7) Q14_2 f21 f22 (Nat.le_trans Z0 (Nat.le_trans sz_0_2 ge_b5)) (Ne.symm (lt_ne (Nat.lt_of_lt_of_le lt_b5 K7.1) ge_b9)) f23 (Ne.symm (lt_ne lt_b3 ge_b5)) f24 (Nat.le_trans Z0 (Nat.le_trans K1.1 ge_b3)) (Ne.symm (lt_ne (Nat.lt_of_lt_of_le lt_b3 sz_2_4) ge_b9)) f25 (Nat.le_trans Z0 (Nat.le_trans sz_0_4 ge_b9)) Q14_3') rfl f25 (W := 0) (by decide) (g := (mkF m 94 #[vi p0, vi p1, vi 3, vi 0, vr b1, vr b3, vr b5, vr b7, vr b9, .unset, .unset, .unset] [(.ref b5), (.ref b9)])) rfl (by rw [hml]; rfl) (argsL := [(.ref b5)]) (rest := []) (lenOf pd_4 rfl) rfl rfl (own_wr rfl rfl) (hb hby at_94)
  obtain ⟨rfl, N20q, K20, Q20_0, Q20_1, Q20_2, Q20_3⟩ := hQ20
  have N20 := Fr.app N14 N20q
  have Q20_3' : Fd3 Z T20.heap b9 (.int 3) := Eq.mp (congrArg (fun z => Fd3 Z T20.heap b9 (Value.int z)) (by decide : ((2 : Int32) + (1 : Int32)) = (3 : Int32))) Q20_3
  have lt_b7 : b7 < h7.size := Exa.lt A7
  have f27 := (kFld K20 (kFld K14 (kFld K11 (kFld K9 F_b7_before nw0) (nwS (Or.inl (Ne.symm (lt_ne (Nat.lt_of_lt_of_le lt_b1 sz_1_3) ge_b7))) (nwM 3 rfl (lt_ne lt_b7 ge_b9) nw0))) (nwS (Or.inl (Ne.symm (lt_ne (Nat.lt_of_lt_of_le lt_b3 K5.1) ge_b7))) (nwS (Or.inl (Ne.symm (lt_ne (Nat.lt_of_lt_of_le lt_b1 sz_1_3) ge_b7))) (nwS (Or.inl (lt_ne lt_b7 ge_b9)) (nwS (Or.inl (lt_ne lt_b7 ge_b9)) nw0))))) (nwS (Or.inl (Ne.symm (lt_ne lt_b5 ge_b7))) (nwS (Or.inl (Ne.symm (lt_ne (Nat.lt_of_lt_of_le lt_b3 K5.1) ge_b7))) (nwS (Or.inl (lt_ne lt_b7 ge_b9)) (nwS (Or.inl (lt_ne lt_b7 ge_b9)) nw0)))))
  have f28 := (kExa K20 (kExa K14 (kExa K11 (kExa K9 A7))))
  have f29 := (kFld K20 (kFld K14 (kFld K11 (kFld K9 (kFld K7 F_b5_after nw0) nw0) (nwS (Or.inl (Ne.symm (lt_ne (Nat.lt_of_lt_of_le lt_b1 K3.1) ge_b5))) (nwM 3 rfl (lt_ne (Nat.lt_of_lt_of_le lt_b5 K7.1) ge_b9) nw0))) (nwS (Or.inl (Ne.symm (lt_ne lt_b3 ge_b5))) (nwS (Or.inl (Ne.symm (lt_ne (Nat.lt_of_lt_of_le lt_b1 K3.1) ge_b5))) (nwS (Or.inl (lt_ne (Nat.lt_of_lt_of_le lt_b5 K7.1) ge_b9)) (nwS (Or.inl (lt_ne (Nat.lt_of_lt_of_le lt_b5 K7.1) ge_b9)) nw0))))) (nwS (Or.inr (sn_12 hw)) (nwS (Or.inl (Ne.symm (lt_ne lt_b3 ge_b5))) (nwS (Or.inl (lt_ne (Nat.lt_of_lt_of_le lt_b5 K7.1) ge_b9)) (nwS (Or.inl (lt_ne (Nat.lt_of_lt_of_le lt_b5 K7.1) ge_b9)) nw0)))))
  have f30 := (kExa K20 f22)
  have f31 := (kExa K20 f25)
  have sz_0_8 := (Nat.le_trans sz_0_7 K20.1)
  obtain ⟨_, T26, L26, X26, hQ26, st26⟩ := own_virtual X20 hx hZ hown (w21 hw) (w22 hw) (notFace_of_selects (args := #[]) (mvT hZ (w24 hw))) (w24 hw) (w23 hw) (w16 hw) (w25 hw) (by decide) (r_add1 l Z a0 hw [] b9 b7 b5 .null .null (3 : Int32) T20.heap n0 (Nat.le_trans Z0 sz_0_8) Q20_2 f27 f28 (Nat.le_trans Z0 (Nat.le_trans sz_0_3 ge_b7)) (Ne.symm (lt_ne lt_b7 ge_b9)) f29 (Ne.symm (lt_ne lt_b5 ge_b7)) f30 (Nat.le_trans Z0 (Nat.le_trans sz_0_2 ge_b5)) (Ne.symm (lt_ne (Nat.lt_of_lt_of_le lt_b5 K7.1) ge_b9)) f31 (Nat.le_trans Z0 (Nat.le_trans sz_0_4 ge_b9)) Q20_3') rfl f31 (W := 0) (by decide) (g := (mkF m 146 #[vi p0, vi p1, vi 3, vi 0, vr b1, vr b3, vr b5, vr b7, vr b9, vr b5, vr b1, .unset] [(.ref b7), (.ref b9)])) rfl (by rw [hml]; rfl) (argsL := [(.ref b7)]) (rest := []) (lenOf pd_4 rfl) rfl rfl (own_wr rfl rfl) (hb hby at_146)
  obtain ⟨rfl, N26q, K26, Q26_0, Q26_1, Q26_2, Q26_3⟩ := hQ26
  have N26 := Fr.app N20 N26q
  have Q26_3' : Fd3 Z T26.heap b9 (.int 4) := Eq.mp (congrArg (fun z => Fd3 Z T26.heap b9 (Value.int z)) (by decide : ((3 : Int32) + (1 : Int32)) = (4 : Int32))) Q26_3
  have sz_0_9 := (Nat.le_trans sz_0_8 K26.1)
  have f33 := (kExa K26 f31)
  obtain ⟨_, T32, L32, X32, hQ32, st32⟩ := own_virtual X26 hx hZ hown (w34 hw) (w35 hw) (notFace_of_selects (args := #[]) (mvT hZ (w37 hw))) (w37 hw) (w36 hw) (w16 hw) (w38 hw) (by decide) (r_size l Z a0 hw [] b9 (4 : Int32) T26.heap n0 (Nat.le_trans Z0 sz_0_9) Q26_3') rfl f33 (W := 0) (by decide) (g := (mkF m 151 #[vi p0, vi p1, vi 3, vi 0, vr b1, vr b3, vr b5, vr b7, vr b9, vr b5, vr b1, .unset] [(.ref b9)])) rfl (by rw [hml]; rfl) (argsL := []) (rest := []) (lenOf pd_5 rfl) rfl rfl (own_wr rfl rfl) (hb hby at_151)
  obtain ⟨rfl, N32q, e32⟩ := hQ32
  have N32 := Fr.app N26 N32q
  have f35 := (kFld K26 (kFld K20 (kFld K14 (kFld K11 (kFld K9 F_b7_after nw0) (nwS (Or.inl (Ne.symm (lt_ne (Nat.lt_of_lt_of_le lt_b1 sz_1_3) ge_b7))) (nwM 3 rfl (lt_ne lt_b7 ge_b9) nw0))) (nwS (Or.inl (Ne.symm (lt_ne (Nat.lt_of_lt_of_le lt_b3 K5.1) ge_b7))) (nwS (Or.inl (Ne.symm (lt_ne (Nat.lt_of_lt_of_le lt_b1 sz_1_3) ge_b7))) (nwS (Or.inl (lt_ne lt_b7 ge_b9)) (nwS (Or.inl (lt_ne lt_b7 ge_b9)) nw0))))) (nwS (Or.inl (Ne.symm (lt_ne lt_b5 ge_b7))) (nwS (Or.inl (Ne.symm (lt_ne (Nat.lt_of_lt_of_le lt_b3 K5.1) ge_b7))) (nwS (Or.inl (lt_ne lt_b7 ge_b9)) (nwS (Or.inl (lt_ne lt_b7 ge_b9)) nw0))))) (nwS (Or.inr (sn_12 hw)) (nwS (Or.inl (Ne.symm (lt_ne lt_b5 ge_b7))) (nwS (Or.inl (lt_ne lt_b7 ge_b9)) (nwS (Or.inl (lt_ne lt_b7 ge_b9)) nw0)))))
  obtain ⟨_, T34, L34, X34, hQ34, st34⟩ := own_virtual X32 hx hZ hown (w39 hw) (w40 hw) (notFace_of_selects (args := #[]) (mvT hZ (w42 hw))) (w42 hw) (w41 hw) (w16 hw) (w43 hw) (by decide) (r_after0 l Z a0 hw [] b9 b7 T26.heap n0 (Nat.le_trans Z0 sz_0_9) f35) e32 f33 (W := 0) (by decide) (g := (mkF m 176 #[vi p0, vi p1, vi 3, vi 0, vr b1, vr b3, vr b5, vr b7, vr b9, vr b5, vr b1, vi 1] [(.ref b7), (.ref b9)])) rfl (by rw [hml]; rfl) (argsL := [(.ref b7)]) (rest := []) (lenOf pd_2 rfl) rfl rfl (own_wr rfl rfl) (hb hby at_176)
  obtain ⟨rfl, N34q, e34⟩ := hQ34
  have N34 := Fr.app N32 N34q
  have f37 := (kExa K26 f28)
  obtain ⟨_, T36, L36, X36, hQ36, st36⟩ := own_virtual X34 hx hZ hown (w39 hw) (w40 hw) (notFace_of_selects (args := #[]) (mvT hZ (w42 hw))) (w42 hw) (w41 hw) (w16 hw) (w43 hw) (by decide) (r_after1 l Z a0 hw [] b9 b5 b7 T26.heap n0 (Nat.le_trans Z0 sz_0_9) Q26_1 f37) e34 f33 (W := 0) (by decide) (g := (mkF m 203 #[vi p0, vi p1, vi 3, vi 0, vr b1, vr b3, vr b5, vr b7, vr b9, vr b5, vr b1, vi 1] [(.ref b5), (.ref b9)])) rfl (by rw [hml]; rfl) (argsL := [(.ref b5)]) (rest := []) (lenOf pd_2 rfl) rfl rfl (own_wr rfl rfl) (hb hby at_203)
  obtain ⟨rfl, N36q, e36⟩ := hQ36
  have N36 := Fr.app N34 N36q
  have f39 := (kFld K26 (kFld K20 (kFld K14 Q11_1 (nwS (Or.inl (Ne.symm (lt_ne (Nat.lt_of_lt_of_le lt_b3 sz_2_4) ge_b9))) (nwS (Or.inl (Ne.symm (lt_ne (Nat.lt_of_lt_of_le lt_b1 sz_1_4) ge_b9))) (nwS (Or.inr (sn_3 hw)) (nwS (Or.inr (sn_4 hw)) nw0))))) (nwS (Or.inl (Ne.symm (lt_ne (Nat.lt_of_lt_of_le lt_b5 K7.1) ge_b9))) (nwS (Or.inl (Ne.symm (lt_ne (Nat.lt_of_lt_of_le lt_b3 sz_2_4) ge_b9))) (nwS (Or.inr (sn_3 hw)) (nwS (Or.inr (sn_4 hw)) nw0))))) (nwS (Or.inl (Ne.symm (lt_ne lt_b7 ge_b9))) (nwS (Or.inl (Ne.symm (lt_ne (Nat.lt_of_lt_of_le lt_b5 K7.1) ge_b9))) (nwS (Or.inr (sn_3 hw)) (nwS (Or.inr (sn_4 hw)) nw0)))))
  obtain ⟨_, T38, L38, X38, hQ38, st38⟩ := own_virtual X36 hx hZ hown (w46 hw) (w47 hw) (notFace_of_selects (args := #[]) (mvT hZ (w49 hw))) (w49 hw) (w48 hw) (w16 hw) (w50 hw) (by decide) (r_iter1 l Z a0 hw [] b9 b1 T26.heap n0 (Nat.le_trans Z0 sz_0_9) f39) e36 f33 (W := 0) (by decide) (g := (mkF m 225 #[vi p0, vi p1, vi 3, vi 0, vr b1, vr b3, vr b5, vr b7, vr b9, vr b5, vr b1, vi 1] [(.ref b9)])) rfl (by rw [hml]; rfl) (argsL := []) (rest := []) (lenOf pd_6 rfl) rfl rfl (own_wr rfl rfl) (hb hby at_225)
  obtain ⟨b1_38, rfl, N38q, K38, Q38_0, Q38_1, Q38_2, Q38_3, Q38_4⟩ := hQ38
  have N38 := Fr.app N36 N38q
  have f42 := (kExa K38 f33)
  have f43 := (kFld K38 (kFld K26 (kFld K20 Q14_1 (nwS (Or.inl (lt_ne (Nat.lt_of_lt_of_le lt_b1 K3.1) ge_b5)) (nwS (Or.inl (lt_ne lt_b1 ge_b3)) (nwS (Or.inl (lt_ne (Nat.lt_of_lt_of_le lt_b1 sz_1_4) ge_b9)) (nwS (Or.inl (lt_ne (Nat.lt_of_lt_of_le lt_b1 sz_1_4) ge_b9)) nw0))))) (nwS (Or.inl (lt_ne (Nat.lt_of_lt_of_le lt_b1 sz_1_3) ge_b7)) (nwS (Or.inl (lt_ne (Nat.lt_of_lt_of_le lt_b1 K3.1) ge_b5)) (nwS (Or.inl (lt_ne (Nat.lt_of_lt_of_le lt_b1 sz_1_4) ge_b9)) (nwS (Or.inl (lt_ne (Nat.lt_of_lt_of_le lt_b1 sz_1_4) ge_b9)) nw0))))) nw0)
  have f44 := (kExa K38 (kExa K26 (kExa K20 f24)))
  have sz_1_5 := (Nat.le_trans sz_1_4 K9.1)
  have sz_1_6 := (Nat.le_trans sz_1_5 K11.1)
  have sz_1_7 := (Nat.le_trans sz_1_6 K14.1)
  have sz_1_8 := (Nat.le_trans sz_1_7 K20.1)
  have sz_1_9 := (Nat.le_trans sz_1_8 K26.1)
  have sz_0_10 := (Nat.le_trans sz_0_9 K38.1)
  obtain ⟨_, T41, L41, X41, hQ41, st41⟩ := own_face X38 hx hZ hown (w63 hw) (w64 hw) (mvT hZ (w65 hw)) (w66 hw) (w67 hw) (w68 hw) (w69 hw) (w70 hw) (w53 hw) (w71 hw) (by decide) (r_nextb1 l Z a0 hw [] b1_38 b1 .null b9 b3 T38.heap n0 (Nat.le_trans Z0 sz_0_10) Q38_1 Q38_3 Q38_4 Q38_2 f42 f43 f44 (Nat.le_trans Z0 (Nat.le_trans sz_0_9 Q38_0)) (Ne.symm (lt_ne (Nat.lt_of_lt_of_le lt_b1 sz_1_9) Q38_0))) rfl Q38_1 (W := 0) (by decide) (g := (mkF m 228 #[vi p0, vi p1, vi 3, vi 0, vr b1, vr b3, vr b5, vr b7, vr b9, vr b5, vr b1, vi 1] [(.ref b1_38)])) rfl (by rw [hml]; rfl) (argsL := []) (rest := []) (lenOf pd_7 rfl) rfl rfl (own_wr rfl rfl) (hb hby at_228)
  obtain ⟨rfl, N41q, K41, Q41_0, Q41_1⟩ := hQ41
  have N41 := Fr.app N38 N41q
  refine ⟨T41, _, some (.int 1), X41, (fun h => by cases h <;> rfl), ?_, fun fs hr => ?_⟩
  · show Q_law n0 _ _
    exact ⟨rfl, N41⟩
  · refine t_iloadN 1 X0.here hx (hb hby at_0) rfl rfl ?_
    refine t_iconst 2 (r := 3) X0.here hx (hb hby at_1) (by decide) rfl ?_
    refine t_iand 3 (r := 3) X0.here hx (hb hby at_2) hk rfl ?_
    refine t_istoreN (pc' := 4) (L' := #[vi p0, vi p1, vi 3, .unset, .unset, .unset, .unset, .unset, .unset, .unset, .unset, .unset]) X0.here hx (hb hby at_3) rfl rfl ?_
    refine t_iloadN 5 X0.here hx (hb hby at_4) rfl rfl ?_
    refine t_iconst 6 (r := 1) X0.here hx (hb hby at_5) (by decide) rfl ?_
    refine t_iand 7 (r := 0) X0.here hx (hb hby at_6) hm rfl ?_
    refine t_ifYes (pc := 7) 14 X0.here hx (hb hby at_7) (by decide) (by decide) (by decide) ?_
    refine t_iconst 15 (r := 0) X0.here hx (hb hby at_14) (by decide) rfl ?_
    refine t_istoreN (pc' := 16) (L' := #[vi p0, vi p1, vi 3, vi 0, .unset, .unset, .unset, .unset, .unset, .unset, .unset, .unset]) X0.here hx (hb hby at_15) rfl rfl ?_
    refine st1 _ ?_
    refine t_dup 20 X1.here hx (hb hby at_19) rfl rfl ?_
    refine st2 _ ?_
    refine t_astore (pc' := 25) (L' := #[vi p0, vi p1, vi 3, vi 0, vr b1, .unset, .unset, .unset, .unset, .unset, .unset, .unset]) X2.here hx (hb hby at_23) rfl rfl rfl ?_
    refine st3 _ ?_
    refine t_dup 29 X3.here hx (hb hby at_28) rfl rfl ?_
    refine st4 _ ?_
    refine t_astore (pc' := 34) (L' := #[vi p0, vi p1, vi 3, vi 0, vr b1, vr b3, .unset, .unset, .unset, .unset, .unset, .unset]) X4.here hx (hb hby at_32) rfl rfl rfl ?_
    refine st5 _ ?_
    refine t_dup 38 X5.here hx (hb hby at_37) rfl rfl ?_
    refine st6 _ ?_
    refine t_astore (pc' := 43) (L' := #[vi p0, vi p1, vi 3, vi 0, vr b1, vr b3, vr b5, .unset, .unset, .unset, .unset, .unset]) X6.here hx (hb hby at_41) rfl rfl rfl ?_
    refine st7 _ ?_
    refine t_dup 47 X7.here hx (hb hby at_46) rfl rfl ?_
    refine st8 _ ?_
    refine t_astore (pc' := 52) (L' := #[vi p0, vi p1, vi 3, vi 0, vr b1, vr b3, vr b5, vr b7, .unset, .unset, .unset, .unset]) X8.here hx (hb hby at_50) rfl rfl rfl ?_
    refine st9 _ ?_
    refine t_dup 56 X9.here hx (hb hby at_55) rfl rfl ?_
    refine st10 _ ?_
    refine t_astore (pc' := 61) (L' := #[vi p0, vi p1, vi 3, vi 0, vr b1, vr b3, vr b5, vr b7, vr b9, .unset, .unset, .unset]) X10.here hx (hb hby at_59) rfl rfl rfl ?_
    refine t_iloadN 62 X10.here hx (hb hby at_61) rfl rfl ?_
    refine t_iconst 63 (r := 1) X10.here hx (hb hby at_62) (by decide) rfl ?_
    refine t_icmpNo 66 X10.here hx (hb hby at_63) (by decide) rfl ?_
    refine t_aload 68 X10.here hx (hb hby at_66) rfl rfl rfl ?_
    refine t_aload 70 X10.here hx (hb hby at_68) rfl rfl rfl ?_
    refine st11 _ ?_
    refine t_iloadN 74 X11.here hx (hb hby at_73) rfl rfl ?_
    refine t_iconst 75 (r := 2) X11.here hx (hb hby at_74) (by decide) rfl ?_
    refine t_icmpNo 78 X11.here hx (hb hby at_75) (by decide) rfl ?_
    refine t_aload 80 X11.here hx (hb hby at_78) rfl rfl rfl ?_
    refine t_aload 82 X11.here hx (hb hby at_80) rfl rfl rfl ?_
    refine st14 _ ?_
    refine t_iloadN 86 X14.here hx (hb hby at_85) rfl rfl ?_
    refine t_iconst 87 (r := 3) X14.here hx (hb hby at_86) (by decide) rfl ?_
    refine t_icmpNo 90 X14.here hx (hb hby at_87) (by decide) rfl ?_
    refine t_aload 92 X14.here hx (hb hby at_90) rfl rfl rfl ?_
    refine t_aload 94 X14.here hx (hb hby at_92) rfl rfl rfl ?_
    refine st20 _ ?_
    refine t_iloadN 98 X20.here hx (hb hby at_97) rfl rfl ?_
    refine t_ifYes (pc := 98) 105 X20.here hx (hb hby at_98) (by decide) (by decide) (by decide) ?_
    refine t_iloadN 106 X20.here hx (hb hby at_105) rfl rfl ?_
    refine t_iconst 107 (r := 1) X20.here hx (hb hby at_106) (by decide) rfl ?_
    refine t_icmpYes (pc := 107) 115 X20.here hx (hb hby at_107) (by decide) (by decide) (by decide) ?_
    refine t_iloadN 116 X20.here hx (hb hby at_115) rfl rfl ?_
    refine t_iconst 117 (r := 2) X20.here hx (hb hby at_116) (by decide) rfl ?_
    refine t_icmpYes (pc := 117) 125 X20.here hx (hb hby at_117) (by decide) (by decide) (by decide) ?_
    refine t_aload 127 X20.here hx (hb hby at_125) rfl rfl rfl ?_
    refine t_astore (pc' := 129) (L' := #[vi p0, vi p1, vi 3, vi 0, vr b1, vr b3, vr b5, vr b7, vr b9, vr b5, .unset, .unset]) X20.here hx (hb hby at_127) rfl rfl rfl ?_
    refine t_iloadN 130 X20.here hx (hb hby at_129) rfl rfl ?_
    refine t_ifYes (pc := 130) 138 X20.here hx (hb hby at_130) (by decide) (by decide) (by decide) ?_
    refine t_aload 140 X20.here hx (hb hby at_138) rfl rfl rfl ?_
    refine t_astore (pc' := 142) (L' := #[vi p0, vi p1, vi 3, vi 0, vr b1, vr b3, vr b5, vr b7, vr b9, vr b5, vr b1, .unset]) X20.here hx (hb hby at_140) rfl rfl rfl ?_
    refine t_aload 144 X20.here hx (hb hby at_142) rfl rfl rfl ?_
    refine t_aload 146 X20.here hx (hb hby at_144) rfl rfl rfl ?_
    refine st26 _ ?_
    refine t_aload 151 X26.here hx (hb hby at_149) rfl rfl rfl ?_
    refine st32 _ ?_
    refine t_iloadN 155 X32.here hx (hb hby at_154) rfl rfl ?_
    refine t_iconst 156 (r := 1) X32.here hx (hb hby at_155) (by decide) rfl ?_
    refine t_iadd 157 (r := 4) X32.here hx (hb hby at_156) (by decide : ((3 : Int32) + (1 : Int32)) = (4 : Int32)) rfl ?_
    refine t_icmpNo 160 X32.here hx (hb hby at_157) (by decide) rfl ?_
    refine t_iconst 161 (r := 1) X32.here hx (hb hby at_160) (by decide) rfl ?_
    refine t_goto (pc := 161) 165 X32.here hx (hb hby at_161) (by decide) (by decide) ?_
    refine t_istore (pc' := 167) (L' := #[vi p0, vi p1, vi 3, vi 0, vr b1, vr b3, vr b5, vr b7, vr b9, vr b5, vr b1, vi 1]) X32.here hx (hb hby at_165) rfl rfl ?_
    refine t_iload 169 X32.here hx (hb hby at_167) rfl rfl ?_
    refine t_ifNo 172 X32.here hx (hb hby at_169) (by decide) rfl ?_
    refine t_aload 174 X32.here hx (hb hby at_172) rfl rfl rfl ?_
    refine t_aload 176 X32.here hx (hb hby at_174) rfl rfl rfl ?_
    refine st34 _ ?_
    refine t_ifnonnullNo 182 X34.here hx (hb hby at_179) rfl ?_
    refine t_iconst 183 (r := 1) X34.here hx (hb hby at_182) (by decide) rfl ?_
    refine t_goto (pc := 183) 187 X34.here hx (hb hby at_183) (by decide) (by decide) ?_
    refine t_istore (pc' := 189) (L' := #[vi p0, vi p1, vi 3, vi 0, vr b1, vr b3, vr b5, vr b7, vr b9, vr b5, vr b1, vi 1]) X34.here hx (hb hby at_187) rfl rfl ?_
    refine t_iload 191 X34.here hx (hb hby at_189) rfl rfl ?_
    refine t_ifNo 194 X34.here hx (hb hby at_191) (by decide) rfl ?_
    refine t_aload 196 X34.here hx (hb hby at_194) rfl rfl rfl ?_
    refine t_ifnullNo 199 X34.here hx (hb hby at_196) rfl ?_
    refine t_aload 201 X34.here hx (hb hby at_199) rfl rfl rfl ?_
    refine t_aload 203 X34.here hx (hb hby at_201) rfl rfl rfl ?_
    refine st36 _ ?_
    refine t_aload 208 X36.here hx (hb hby at_206) rfl rfl rfl ?_
    refine Jvm.RoadKit.acmp (g := (mkF m 208 #[vi p0, vi p1, vi 3, vi 0, vr b1, vr b3, vr b5, vr b7, vr b9, vr b5, vr b1, vi 1] [(.ref b7), (.ref b7)])) X36 hx rfl rfl rfl (pc0 := 208) (pc' := 211) (same := true) rfl (hb hby at_208) rfl (decide_eq_true rfl) (by decide) (by decide) ?_
    refine t_iconst 212 (r := 1) X36.here hx (hb hby at_211) (by decide) rfl ?_
    refine t_goto (pc := 212) 216 X36.here hx (hb hby at_212) (by decide) (by decide) ?_
    refine t_istore (pc' := 218) (L' := #[vi p0, vi p1, vi 3, vi 0, vr b1, vr b3, vr b5, vr b7, vr b9, vr b5, vr b1, vi 1]) X36.here hx (hb hby at_216) rfl rfl ?_
    refine t_iload 220 X36.here hx (hb hby at_218) rfl rfl ?_
    refine t_ifNo 223 X36.here hx (hb hby at_220) (by decide) rfl ?_
    refine t_aload 225 X36.here hx (hb hby at_223) rfl rfl rfl ?_
    refine st38 _ ?_
    refine st41 _ ?_
    refine t_aload 235 X41.here hx (hb hby at_233) rfl rfl rfl ?_
    refine Jvm.RoadKit.acmp (g := (mkF m 235 #[vi p0, vi p1, vi 3, vi 0, vr b1, vr b3, vr b5, vr b7, vr b9, vr b5, vr b1, vi 1] [(.ref b1), (.ref b1)])) X41 hx rfl rfl rfl (pc0 := 235) (pc' := 238) (same := true) rfl (hb hby at_235) rfl (decide_eq_true rfl) (by decide) (by decide) ?_
    refine t_iconst 239 (r := 1) X41.here hx (hb hby at_238) (by decide) rfl ?_
    refine t_goto (pc := 239) 243 X41.here hx (hb hby at_239) (by decide) (by decide) ?_
    refine t_istore (pc' := 245) (L' := #[vi p0, vi p1, vi 3, vi 0, vr b1, vr b3, vr b5, vr b7, vr b9, vr b5, vr b1, vi 1]) X41.here hx (hb hby at_243) rfl rfl ?_
    refine t_iload 247 X41.here hx (hb hby at_245) rfl rfl ?_
    refine t_ifNo 250 X41.here hx (hb hby at_247) (by decide) rfl ?_
    refine t_iloadN 251 X41.here hx (hb hby at_250) rfl rfl ?_
    refine t_ifYes (pc := 251) 347 X41.here hx (hb hby at_251) (by decide) (by decide) (by decide) ?_
    refine t_iload 349 X41.here hx (hb hby at_347) rfl rfl ?_
    exact retN X41 hx (t := .boolean) hret (by simp) (hb hby at_349) hr
theorem ef_law_3_1 (p0 p1 : Int32) (m : MethodId) : entryFrame m #[(.int p0), (.int p1)] maxLocals = mkF m 0 #[.val (.int p0), .val (.int p1), .unset, .unset, .unset, .unset, .unset, .unset, .unset, .unset, .unset, .unset] [] := by first | (simp [entryFrame, mkF, argsToLocals, Value.category, maxLocals]; done) | rfl
set_option maxRecDepth 65536 in
set_option maxHeartbeats 40000000 in
theorem law_3_1 (l : Launch) (Z : State) (a0 : Array Value) (hw : HW Z a0) (ws : List Jvm.Cond) (p0 p1 : Int32) (h0 : Heap) (n0 : Nat) (Z0 : n0 ≤ h0.size) (hk : p0 &&& (3 : Int32) = (3 : Int32)) (hm : p1 &&& (1 : Int32) = (1 : Int32)) :
    MetFree l x (head1 (Jvm.Cond.code x code maxLocals ret :: ws) room_1) (fun a U => a = #[(.int p0), (.int p1)] ∧ Z.Warmed39 U.vm ∧ U.heap = h0) (fun _ _ _ _ _ => True) (fun _ U o U' => ∃ v L, o = .returned v ∧ Q_law n0 v L ∧ FrameEnd U o U' L 24 128) := by
  refine own_law (y := x) (k := 7) (n := 17) (plainFor_of_name pn_InsertionOrderAddPinLaw273) (ef_law_3_1 p0 p1) (by decide) (by decide) ?_
  intro p e s m below meth c s₁ hx hby hml hown hnm hret hZ hh e0 X0
  have N0 := Fr.nil n0
  obtain ⟨T1, h1, X1, e1, E1, A1, D1, -, st1⟩ := newO X0 hx hZ hown (w0 hw) (w1 hw) (w2 hw) e0 (g := (mkF m 16 #[vi p0, vi p1, vi 3, vi 1, .unset, .unset, .unset, .unset, .unset, .unset, .unset, .unset] [])) rfl (hb hby at_16) (by decide) (by decide)
  obtain ⟨b1, g1⟩ : ∃ z, z = h0.size := ⟨_, rfl⟩
  rw [← g1] at A1 D1 st1
  have ge_b1 : h0.size ≤ b1 := Nat.le_of_eq g1.symm
  have K1 := KL.ofE E1
  have F_b1_before : Fd1 Z h1 b1 .null := D1 (Or.inl (w29 hw)) (ty := (.object "java/lang/Object")) (by decide)
  have F_b1_after : Fd4 Z h1 b1 .null := D1 (Or.inl (w45 hw)) (ty := (.object "java/lang/Object")) (by decide)
  obtain ⟨_, T2, L2, X2, hQ2, st2⟩ := own_init X1 hx hZ rfl hown (w3 hw) (w4 hw) (w2 hw) (w5 hw) (by decide) (r_init l Z a0 hw [] b1 h1 n0 (Nat.le_trans Z0 K1.1)) e1 (W := 1) (by decide) (g := (mkF m 20 #[vi p0, vi p1, vi 3, vi 1, .unset, .unset, .unset, .unset, .unset, .unset, .unset, .unset] [(.ref b1), (.ref b1)])) rfl (by rw [hml]; rfl) (argsL := []) (rest := [(.ref b1)]) (lenOf pd_0 rfl) rfl rfl (own_wr rfl rfl) (hb hby at_20)
  obtain ⟨rfl, N2q, e2⟩ := hQ2
  have N2 := Fr.app N0 N2q
  obtain ⟨T3, h3, X3, e3, E3, A3, D3, -, st3⟩ := newO X2 hx hZ hown (w0 hw) (w1 hw) (w2 hw) e2 (g := (mkF m 25 #[vi p0, vi p1, vi 3, vi 1, vr b1, .unset, .unset, .unset, .unset, .unset, .unset, .unset] [])) rfl (hb hby at_25) (by decide) (by decide)
  obtain ⟨b3, g3⟩ : ∃ z, z = h1.size := ⟨_, rfl⟩
  rw [← g3] at A3 D3 st3
  have ge_b3 : h1.size ≤ b3 := Nat.le_of_eq g3.symm
  have K3 := KL.ofE E3
  have F_b3_before : Fd1 Z h3 b3 .null := D3 (Or.inl (w29 hw)) (ty := (.object "java/lang/Object")) (by decide)
  have F_b3_after : Fd4 Z h3 b3 .null := D3 (Or.inl (w45 hw)) (ty := (.object "java/lang/Object")) (by decide)
  have sz_0_2 := (Nat.le_trans K1.1 K3.1)
  obtain ⟨_, T4, L4, X4, hQ4, st4⟩ := own_init X3 hx hZ rfl hown (w3 hw) (w4 hw) (w2 hw) (w5 hw) (by decide) (r_init l Z a0 hw [] b3 h3 n0 (Nat.le_trans Z0 sz_0_2)) e3 (W := 1) (by decide) (g := (mkF m 29 #[vi p0, vi p1, vi 3, vi 1, vr b1, .unset, .unset, .unset, .unset, .unset, .unset, .unset] [(.ref b3), (.ref b3)])) rfl (by rw [hml]; rfl) (argsL := []) (rest := [(.ref b3)]) (lenOf pd_0 rfl) rfl rfl (own_wr rfl rfl) (hb hby at_29)
  obtain ⟨rfl, N4q, e4⟩ := hQ4
  have N4 := Fr.app N2 N4q
  obtain ⟨T5, h5, X5, e5, E5, A5, D5, -, st5⟩ := newO X4 hx hZ hown (w0 hw) (w1 hw) (w2 hw) e4 (g := (mkF m 34 #[vi p0, vi p1, vi 3, vi 1, vr b1, vr b3, .unset, .unset, .unset, .unset, .unset, .unset] [])) rfl (hb hby at_34) (by decide) (by decide)
  obtain ⟨b5, g5⟩ : ∃ z, z = h3.size := ⟨_, rfl⟩
  rw [← g5] at A5 D5 st5
  have ge_b5 : h3.size ≤ b5 := Nat.le_of_eq g5.symm
  have K5 := KL.ofE E5
  have F_b5_before : Fd1 Z h5 b5 .null := D5 (Or.inl (w29 hw)) (ty := (.object "java/lang/Object")) (by decide)
  have F_b5_after : Fd4 Z h5 b5 .null := D5 (Or.inl (w45 hw)) (ty := (.object "java/lang/Object")) (by decide)
  have sz_0_3 := (Nat.le_trans sz_0_2 K5.1)
  obtain ⟨_, T6, L6, X6, hQ6, st6⟩ := own_init X5 hx hZ rfl hown (w3 hw) (w4 hw) (w2 hw) (w5 hw) (by decide) (r_init l Z a0 hw [] b5 h5 n0 (Nat.le_trans Z0 sz_0_3)) e5 (W := 1) (by decide) (g := (mkF m 38 #[vi p0, vi p1, vi 3, vi 1, vr b1, vr b3, .unset, .unset, .unset, .unset, .unset, .unset] [(.ref b5), (.ref b5)])) rfl (by rw [hml]; rfl) (argsL := []) (rest := [(.ref b5)]) (lenOf pd_0 rfl) rfl rfl (own_wr rfl rfl) (hb hby at_38)
  obtain ⟨rfl, N6q, e6⟩ := hQ6
  have N6 := Fr.app N4 N6q
  obtain ⟨T7, h7, X7, e7, E7, A7, D7, -, st7⟩ := newO X6 hx hZ hown (w0 hw) (w1 hw) (w2 hw) e6 (g := (mkF m 43 #[vi p0, vi p1, vi 3, vi 1, vr b1, vr b3, vr b5, .unset, .unset, .unset, .unset, .unset] [])) rfl (hb hby at_43) (by decide) (by decide)
  obtain ⟨b7, g7⟩ : ∃ z, z = h5.size := ⟨_, rfl⟩
  rw [← g7] at A7 D7 st7
  have ge_b7 : h5.size ≤ b7 := Nat.le_of_eq g7.symm
  have K7 := KL.ofE E7
  have F_b7_before : Fd1 Z h7 b7 .null := D7 (Or.inl (w29 hw)) (ty := (.object "java/lang/Object")) (by decide)
  have F_b7_after : Fd4 Z h7 b7 .null := D7 (Or.inl (w45 hw)) (ty := (.object "java/lang/Object")) (by decide)
  have sz_0_4 := (Nat.le_trans sz_0_3 K7.1)
  obtain ⟨_, T8, L8, X8, hQ8, st8⟩ := own_init X7 hx hZ rfl hown (w3 hw) (w4 hw) (w2 hw) (w5 hw) (by decide) (r_init l Z a0 hw [] b7 h7 n0 (Nat.le_trans Z0 sz_0_4)) e7 (W := 1) (by decide) (g := (mkF m 47 #[vi p0, vi p1, vi 3, vi 1, vr b1, vr b3, vr b5, .unset, .unset, .unset, .unset, .unset] [(.ref b7), (.ref b7)])) rfl (by rw [hml]; rfl) (argsL := []) (rest := [(.ref b7)]) (lenOf pd_0 rfl) rfl rfl (own_wr rfl rfl) (hb hby at_47)
  obtain ⟨rfl, N8q, e8⟩ := hQ8
  have N8 := Fr.app N6 N8q
  obtain ⟨T9, h9, X9, e9, E9, A9, D9, -, st9⟩ := newO X8 hx hZ hown (w14 hw) (w15 hw) (w16 hw) e8 (g := (mkF m 52 #[vi p0, vi p1, vi 3, vi 1, vr b1, vr b3, vr b5, vr b7, .unset, .unset, .unset, .unset] [])) rfl (hb hby at_52) (by decide) (by decide)
  obtain ⟨b9, g9⟩ : ∃ z, z = h7.size := ⟨_, rfl⟩
  rw [← g9] at A9 D9 st9
  have ge_b9 : h7.size ≤ b9 := Nat.le_of_eq g9.symm
  have K9 := KL.ofE E9
  have F_b9_last : Fd0 Z h9 b9 .null := D9 (Or.inl (w27 hw)) (ty := (.object "com/example/bourse/bourse/sim/InsertionOrder$Link")) (by decide)
  have F_b9_first : Fd2 Z h9 b9 .null := D9 (Or.inl (w31 hw)) (ty := (.object "com/example/bourse/bourse/sim/InsertionOrder$Link")) (by decide)
  have F_b9_size : Fd3 Z h9 b9 z0 := D9 (Or.inl (w33 hw)) (ty := .int) (by decide)
  have sz_0_5 := (Nat.le_trans sz_0_4 K9.1)
  obtain ⟨_, T10, L10, X10, hQ10, st10⟩ := own_init X9 hx hZ rfl hown (w17 hw) (w18 hw) (w16 hw) (w19 hw) (by decide) (r_oinit l Z a0 hw [] b9 h9 n0 (Nat.le_trans Z0 sz_0_5)) e9 (W := 1) (by decide) (g := (mkF m 56 #[vi p0, vi p1, vi 3, vi 1, vr b1, vr b3, vr b5, vr b7, .unset, .unset, .unset, .unset] [(.ref b9), (.ref b9)])) rfl (by rw [hml]; rfl) (argsL := []) (rest := [(.ref b9)]) (lenOf pd_0 rfl) rfl rfl (own_wr rfl rfl) (hb hby at_56)
  obtain ⟨rfl, N10q, e10⟩ := hQ10
  have N10 := Fr.app N8 N10q
  have f12 := (kFld K9 (kFld K7 (kFld K5 (kFld K3 F_b1_before nw0) nw0) nw0) nw0)
  have f13 := (kExa K9 (kExa K7 (kExa K5 (kExa K3 A1))))
  have lt_b1 : b1 < h1.size := Exa.lt A1
  have sz_1_3 := (Nat.le_trans K3.1 K5.1)
  have sz_1_4 := (Nat.le_trans sz_1_3 K7.1)
  obtain ⟨_, T11, L11, X11, hQ11, st11⟩ := own_virtual X10 hx hZ hown (w21 hw) (w22 hw) (notFace_of_selects (args := #[]) (mvT hZ (w24 hw))) (w24 hw) (w23 hw) (w16 hw) (w25 hw) (by decide) (r_add0 l Z a0 hw [] b9 b1 .null .null (0 : Int32) h9 n0 (Nat.le_trans Z0 sz_0_5) F_b9_last f12 f13 (Nat.le_trans Z0 (Nat.le_trans (Nat.le_refl _) ge_b1)) (Ne.symm (lt_ne (Nat.lt_of_lt_of_le lt_b1 sz_1_4) ge_b9)) F_b9_first A9 (Nat.le_trans Z0 (Nat.le_trans sz_0_4 ge_b9)) F_b9_size) e10 A9 (W := 0) (by decide) (g := (mkF m 70 #[vi p0, vi p1, vi 3, vi 1, vr b1, vr b3, vr b5, vr b7, vr b9, .unset, .unset, .unset] [(.ref b1), (.ref b9)])) rfl (by rw [hml]; rfl) (argsL := [(.ref b1)]) (rest := []) (lenOf pd_4 rfl) rfl rfl (own_wr rfl rfl) (hb hby at_70)
  obtain ⟨rfl, N11q, K11, Q11_0, Q11_1, Q11_2, Q11_3⟩ := hQ11
  have N11 := Fr.app N10 N11q
  have Q11_3' : Fd3 Z T11.heap b9 (.int 1) := Eq.mp (congrArg (fun z => Fd3 Z T11.heap b9 (Value.int z)) (by decide : ((0 : Int32) + (1 : Int32)) = (1 : Int32))) Q11_3
  have lt_b3 : b3 < h3.size := Exa.lt A3
  have sz_2_4 := (Nat.le_trans K5.1 K7.1)
  have f15 := (kFld K11 (kFld K9 (kFld K7 (kFld K5 F_b3_before nw0) nw0) nw0) (nwS (Or.inl (Ne.symm (lt_ne lt_b1 ge_b3))) (nwM 3 rfl (lt_ne (Nat.lt_of_lt_of_le lt_b3 sz_2_4) ge_b9) nw0)))
  have f16 := (kExa K11 (kExa K9 (kExa K7 (kExa K5 A3))))
  have f17 := (kFld K11 (kFld K9 (kFld K7 (kFld K5 (kFld K3 F_b1_after nw0) nw0) nw0) nw0) (nwS (Or.inr (sn_12 hw)) (nwM 3 rfl (lt_ne (Nat.lt_of_lt_of_le lt_b1 sz_1_4) ge_b9) nw0)))
  have f18 := (kExa K11 f13)
  have f19 := (kExa K11 A9)
  have sz_0_6 := (Nat.le_trans sz_0_5 K11.1)
  obtain ⟨_, T14, L14, X14, hQ14, st14⟩ := own_virtual X11 hx hZ hown (w21 hw) (w22 hw) (notFace_of_selects (args := #[]) (mvT hZ (w24 hw))) (w24 hw) (w23 hw) (w16 hw) (w25 hw) (by decide) (r_add1 l Z a0 hw [] b9 b3 b1 .null .null (1 : Int32) T11.heap n0 (Nat.le_trans Z0 sz_0_6) Q11_2 f15 f16 (Nat.le_trans Z0 (Nat.le_trans K1.1 ge_b3)) (Ne.symm (lt_ne (Nat.lt_of_lt_of_le lt_b3 sz_2_4) ge_b9)) f17 (Ne.symm (lt_ne lt_b1 ge_b3)) f18 (Nat.le_trans Z0 (Nat.le_trans (Nat.le_refl _) ge_b1)) (Ne.symm (lt_ne (Nat.lt_of_lt_of_le lt_b1 sz_1_4) ge_b9)) f19 (Nat.le_trans Z0 (Nat.le_trans sz_0_4 ge_b9)) Q11_3') rfl f19 (W := 0) (by decide) (g := (mkF m 82 #[vi p0, vi p1, vi 3, vi 1, vr b1, vr b3, vr b5, vr b7, vr b9, .unset, .unset, .unset] [(.ref b3), (.ref b9)])) rfl (by rw [hml]; rfl) (argsL := [(.ref b3)]) (rest := []) (lenOf pd_4 rfl) rfl rfl (own_wr rfl rfl) (hb hby at_82)
  obtain ⟨rfl, N14q, K14, Q14_0, Q14_1, Q14_2, Q14_3⟩ := hQ14
  have N14 := Fr.app N11 N14q
  have Q14_3' : Fd3 Z T14.heap b9 (.int 2) := Eq.mp (congrArg (fun z => Fd3 Z T14.heap b9 (Value.int z)) (by decide : ((1 : Int32) + (1 : Int32)) = (2 : Int32))) Q14_3
  have lt_b5 : b5 < h5.size := Exa.lt A5
  have f21 := (kFld K14 (kFld K11 (kFld K9 (kFld K7 F_b5_before nw0) nw0) (nwS (Or.inl (Ne.symm (lt_ne (Nat.lt_of_lt_of_le lt_b1 K3.1) ge_b5))) (nwM 3 rfl (lt_ne (Nat.lt_of_lt_of_le lt_b5 K7.1) ge_b9) nw0))) (nwS (Or.inl (Ne.symm (lt_ne lt_b3 ge_b5))) (nwS (Or.inl (Ne.symm (lt_ne (Nat.lt_of_lt_of_le lt_b1 K3.1) ge_b5))) (nwS (Or.inl (lt_ne (Nat.lt_of_lt_of_le lt_b5 K7.1) ge_b9)) (nwS (Or.inl (lt_ne (Nat.lt_of_lt_of_le lt_b5 K7.1) ge_b9)) nw0)))))
  have f22 := (kExa K14 (kExa K11 (kExa K9 (kExa K7 A5))))
  have f23 := (kFld K14 (kFld K11 (kFld K9 (kFld K7 (kFld K5 F_b3_after nw0) nw0) nw0) (nwS (Or.inl (Ne.symm (lt_ne lt_b1 ge_b3))) (nwM 3 rfl (lt_ne (Nat.lt_of_lt_of_le lt_b3 sz_2_4) ge_b9) nw0))) (nwS (Or.inr (sn_12 hw)) (nwS (Or.inl (Ne.symm (lt_ne lt_b1 ge_b3))) (nwS (Or.inl (lt_ne (Nat.lt_of_lt_of_le lt_b3 sz_2_4) ge_b9)) (nwS (Or.inl (lt_ne (Nat.lt_of_lt_of_le lt_b3 sz_2_4) ge_b9)) nw0)))))
  have f24 := (kExa K14 f16)
  have f25 := (kExa K14 f19)
  have sz_0_7 := (Nat.le_trans sz_0_6 K14.1)
  obtain ⟨_, T20, L20, X20, hQ20, st20⟩ := own_virtual X14 hx hZ hown (w21 hw) (w22 hw) (notFace_of_selects (args := #[]) (mvT hZ (w24 hw))) (w24 hw) (w23 hw) (w16 hw) (w25 hw) (by decide) (r_add1 l Z a0 hw [] b9 b5 b3 .null .null (2 : Int32) T14.heap n0 (Nat.le_trans Z0 sz_0_7) Q14_2 f21 f22 (Nat.le_trans Z0 (Nat.le_trans sz_0_2 ge_b5)) (Ne.symm (lt_ne (Nat.lt_of_lt_of_le lt_b5 K7.1) ge_b9)) f23 (Ne.symm (lt_ne lt_b3 ge_b5)) f24 (Nat.le_trans Z0 (Nat.le_trans K1.1 ge_b3)) (Ne.symm (lt_ne (Nat.lt_of_lt_of_le lt_b3 sz_2_4) ge_b9)) f25 (Nat.le_trans Z0 (Nat.le_trans sz_0_4 ge_b9)) Q14_3') rfl f25 (W := 0) (by decide) (g := (mkF m 94 #[vi p0, vi p1, vi 3, vi 1, vr b1, vr b3, vr b5, vr b7, vr b9, .unset, .unset, .unset] [(.ref b5), (.ref b9)])) rfl (by rw [hml]; rfl) (argsL := [(.ref b5)]) (rest := []) (lenOf pd_4 rfl) rfl rfl (own_wr rfl rfl) (hb hby at_94)
  obtain ⟨rfl, N20q, K20, Q20_0, Q20_1, Q20_2, Q20_3⟩ := hQ20
  have N20 := Fr.app N14 N20q
  have Q20_3' : Fd3 Z T20.heap b9 (.int 3) := Eq.mp (congrArg (fun z => Fd3 Z T20.heap b9 (Value.int z)) (by decide : ((2 : Int32) + (1 : Int32)) = (3 : Int32))) Q20_3
  have lt_b7 : b7 < h7.size := Exa.lt A7
  have f27 := (kFld K20 (kFld K14 (kFld K11 (kFld K9 F_b7_before nw0) (nwS (Or.inl (Ne.symm (lt_ne (Nat.lt_of_lt_of_le lt_b1 sz_1_3) ge_b7))) (nwM 3 rfl (lt_ne lt_b7 ge_b9) nw0))) (nwS (Or.inl (Ne.symm (lt_ne (Nat.lt_of_lt_of_le lt_b3 K5.1) ge_b7))) (nwS (Or.inl (Ne.symm (lt_ne (Nat.lt_of_lt_of_le lt_b1 sz_1_3) ge_b7))) (nwS (Or.inl (lt_ne lt_b7 ge_b9)) (nwS (Or.inl (lt_ne lt_b7 ge_b9)) nw0))))) (nwS (Or.inl (Ne.symm (lt_ne lt_b5 ge_b7))) (nwS (Or.inl (Ne.symm (lt_ne (Nat.lt_of_lt_of_le lt_b3 K5.1) ge_b7))) (nwS (Or.inl (lt_ne lt_b7 ge_b9)) (nwS (Or.inl (lt_ne lt_b7 ge_b9)) nw0)))))
  have f28 := (kExa K20 (kExa K14 (kExa K11 (kExa K9 A7))))
  have f29 := (kFld K20 (kFld K14 (kFld K11 (kFld K9 (kFld K7 F_b5_after nw0) nw0) (nwS (Or.inl (Ne.symm (lt_ne (Nat.lt_of_lt_of_le lt_b1 K3.1) ge_b5))) (nwM 3 rfl (lt_ne (Nat.lt_of_lt_of_le lt_b5 K7.1) ge_b9) nw0))) (nwS (Or.inl (Ne.symm (lt_ne lt_b3 ge_b5))) (nwS (Or.inl (Ne.symm (lt_ne (Nat.lt_of_lt_of_le lt_b1 K3.1) ge_b5))) (nwS (Or.inl (lt_ne (Nat.lt_of_lt_of_le lt_b5 K7.1) ge_b9)) (nwS (Or.inl (lt_ne (Nat.lt_of_lt_of_le lt_b5 K7.1) ge_b9)) nw0))))) (nwS (Or.inr (sn_12 hw)) (nwS (Or.inl (Ne.symm (lt_ne lt_b3 ge_b5))) (nwS (Or.inl (lt_ne (Nat.lt_of_lt_of_le lt_b5 K7.1) ge_b9)) (nwS (Or.inl (lt_ne (Nat.lt_of_lt_of_le lt_b5 K7.1) ge_b9)) nw0)))))
  have f30 := (kExa K20 f22)
  have f31 := (kExa K20 f25)
  have sz_0_8 := (Nat.le_trans sz_0_7 K20.1)
  obtain ⟨_, T26, L26, X26, hQ26, st26⟩ := own_virtual X20 hx hZ hown (w21 hw) (w22 hw) (notFace_of_selects (args := #[]) (mvT hZ (w24 hw))) (w24 hw) (w23 hw) (w16 hw) (w25 hw) (by decide) (r_add1 l Z a0 hw [] b9 b7 b5 .null .null (3 : Int32) T20.heap n0 (Nat.le_trans Z0 sz_0_8) Q20_2 f27 f28 (Nat.le_trans Z0 (Nat.le_trans sz_0_3 ge_b7)) (Ne.symm (lt_ne lt_b7 ge_b9)) f29 (Ne.symm (lt_ne lt_b5 ge_b7)) f30 (Nat.le_trans Z0 (Nat.le_trans sz_0_2 ge_b5)) (Ne.symm (lt_ne (Nat.lt_of_lt_of_le lt_b5 K7.1) ge_b9)) f31 (Nat.le_trans Z0 (Nat.le_trans sz_0_4 ge_b9)) Q20_3') rfl f31 (W := 0) (by decide) (g := (mkF m 146 #[vi p0, vi p1, vi 3, vi 1, vr b1, vr b3, vr b5, vr b7, vr b9, vr b5, vr b1, .unset] [(.ref b7), (.ref b9)])) rfl (by rw [hml]; rfl) (argsL := [(.ref b7)]) (rest := []) (lenOf pd_4 rfl) rfl rfl (own_wr rfl rfl) (hb hby at_146)
  obtain ⟨rfl, N26q, K26, Q26_0, Q26_1, Q26_2, Q26_3⟩ := hQ26
  have N26 := Fr.app N20 N26q
  have Q26_3' : Fd3 Z T26.heap b9 (.int 4) := Eq.mp (congrArg (fun z => Fd3 Z T26.heap b9 (Value.int z)) (by decide : ((3 : Int32) + (1 : Int32)) = (4 : Int32))) Q26_3
  have sz_0_9 := (Nat.le_trans sz_0_8 K26.1)
  have f33 := (kExa K26 f31)
  obtain ⟨_, T32, L32, X32, hQ32, st32⟩ := own_virtual X26 hx hZ hown (w34 hw) (w35 hw) (notFace_of_selects (args := #[]) (mvT hZ (w37 hw))) (w37 hw) (w36 hw) (w16 hw) (w38 hw) (by decide) (r_size l Z a0 hw [] b9 (4 : Int32) T26.heap n0 (Nat.le_trans Z0 sz_0_9) Q26_3') rfl f33 (W := 0) (by decide) (g := (mkF m 151 #[vi p0, vi p1, vi 3, vi 1, vr b1, vr b3, vr b5, vr b7, vr b9, vr b5, vr b1, .unset] [(.ref b9)])) rfl (by rw [hml]; rfl) (argsL := []) (rest := []) (lenOf pd_5 rfl) rfl rfl (own_wr rfl rfl) (hb hby at_151)
  obtain ⟨rfl, N32q, e32⟩ := hQ32
  have N32 := Fr.app N26 N32q
  have f35 := (kFld K26 (kFld K20 (kFld K14 (kFld K11 (kFld K9 F_b7_after nw0) (nwS (Or.inl (Ne.symm (lt_ne (Nat.lt_of_lt_of_le lt_b1 sz_1_3) ge_b7))) (nwM 3 rfl (lt_ne lt_b7 ge_b9) nw0))) (nwS (Or.inl (Ne.symm (lt_ne (Nat.lt_of_lt_of_le lt_b3 K5.1) ge_b7))) (nwS (Or.inl (Ne.symm (lt_ne (Nat.lt_of_lt_of_le lt_b1 sz_1_3) ge_b7))) (nwS (Or.inl (lt_ne lt_b7 ge_b9)) (nwS (Or.inl (lt_ne lt_b7 ge_b9)) nw0))))) (nwS (Or.inl (Ne.symm (lt_ne lt_b5 ge_b7))) (nwS (Or.inl (Ne.symm (lt_ne (Nat.lt_of_lt_of_le lt_b3 K5.1) ge_b7))) (nwS (Or.inl (lt_ne lt_b7 ge_b9)) (nwS (Or.inl (lt_ne lt_b7 ge_b9)) nw0))))) (nwS (Or.inr (sn_12 hw)) (nwS (Or.inl (Ne.symm (lt_ne lt_b5 ge_b7))) (nwS (Or.inl (lt_ne lt_b7 ge_b9)) (nwS (Or.inl (lt_ne lt_b7 ge_b9)) nw0)))))
  obtain ⟨_, T34, L34, X34, hQ34, st34⟩ := own_virtual X32 hx hZ hown (w39 hw) (w40 hw) (notFace_of_selects (args := #[]) (mvT hZ (w42 hw))) (w42 hw) (w41 hw) (w16 hw) (w43 hw) (by decide) (r_after0 l Z a0 hw [] b9 b7 T26.heap n0 (Nat.le_trans Z0 sz_0_9) f35) e32 f33 (W := 0) (by decide) (g := (mkF m 176 #[vi p0, vi p1, vi 3, vi 1, vr b1, vr b3, vr b5, vr b7, vr b9, vr b5, vr b1, vi 1] [(.ref b7), (.ref b9)])) rfl (by rw [hml]; rfl) (argsL := [(.ref b7)]) (rest := []) (lenOf pd_2 rfl) rfl rfl (own_wr rfl rfl) (hb hby at_176)
  obtain ⟨rfl, N34q, e34⟩ := hQ34
  have N34 := Fr.app N32 N34q
  have f37 := (kExa K26 f28)
  obtain ⟨_, T36, L36, X36, hQ36, st36⟩ := own_virtual X34 hx hZ hown (w39 hw) (w40 hw) (notFace_of_selects (args := #[]) (mvT hZ (w42 hw))) (w42 hw) (w41 hw) (w16 hw) (w43 hw) (by decide) (r_after1 l Z a0 hw [] b9 b5 b7 T26.heap n0 (Nat.le_trans Z0 sz_0_9) Q26_1 f37) e34 f33 (W := 0) (by decide) (g := (mkF m 203 #[vi p0, vi p1, vi 3, vi 1, vr b1, vr b3, vr b5, vr b7, vr b9, vr b5, vr b1, vi 1] [(.ref b5), (.ref b9)])) rfl (by rw [hml]; rfl) (argsL := [(.ref b5)]) (rest := []) (lenOf pd_2 rfl) rfl rfl (own_wr rfl rfl) (hb hby at_203)
  obtain ⟨rfl, N36q, e36⟩ := hQ36
  have N36 := Fr.app N34 N36q
  have f39 := (kFld K26 (kFld K20 (kFld K14 Q11_1 (nwS (Or.inl (Ne.symm (lt_ne (Nat.lt_of_lt_of_le lt_b3 sz_2_4) ge_b9))) (nwS (Or.inl (Ne.symm (lt_ne (Nat.lt_of_lt_of_le lt_b1 sz_1_4) ge_b9))) (nwS (Or.inr (sn_3 hw)) (nwS (Or.inr (sn_4 hw)) nw0))))) (nwS (Or.inl (Ne.symm (lt_ne (Nat.lt_of_lt_of_le lt_b5 K7.1) ge_b9))) (nwS (Or.inl (Ne.symm (lt_ne (Nat.lt_of_lt_of_le lt_b3 sz_2_4) ge_b9))) (nwS (Or.inr (sn_3 hw)) (nwS (Or.inr (sn_4 hw)) nw0))))) (nwS (Or.inl (Ne.symm (lt_ne lt_b7 ge_b9))) (nwS (Or.inl (Ne.symm (lt_ne (Nat.lt_of_lt_of_le lt_b5 K7.1) ge_b9))) (nwS (Or.inr (sn_3 hw)) (nwS (Or.inr (sn_4 hw)) nw0)))))
  obtain ⟨_, T38, L38, X38, hQ38, st38⟩ := own_virtual X36 hx hZ hown (w46 hw) (w47 hw) (notFace_of_selects (args := #[]) (mvT hZ (w49 hw))) (w49 hw) (w48 hw) (w16 hw) (w50 hw) (by decide) (r_iter1 l Z a0 hw [] b9 b1 T26.heap n0 (Nat.le_trans Z0 sz_0_9) f39) e36 f33 (W := 0) (by decide) (g := (mkF m 225 #[vi p0, vi p1, vi 3, vi 1, vr b1, vr b3, vr b5, vr b7, vr b9, vr b5, vr b1, vi 1] [(.ref b9)])) rfl (by rw [hml]; rfl) (argsL := []) (rest := []) (lenOf pd_6 rfl) rfl rfl (own_wr rfl rfl) (hb hby at_225)
  obtain ⟨b1_38, rfl, N38q, K38, Q38_0, Q38_1, Q38_2, Q38_3, Q38_4⟩ := hQ38
  have N38 := Fr.app N36 N38q
  have f42 := (kExa K38 f33)
  have f43 := (kFld K38 (kFld K26 (kFld K20 Q14_1 (nwS (Or.inl (lt_ne (Nat.lt_of_lt_of_le lt_b1 K3.1) ge_b5)) (nwS (Or.inl (lt_ne lt_b1 ge_b3)) (nwS (Or.inl (lt_ne (Nat.lt_of_lt_of_le lt_b1 sz_1_4) ge_b9)) (nwS (Or.inl (lt_ne (Nat.lt_of_lt_of_le lt_b1 sz_1_4) ge_b9)) nw0))))) (nwS (Or.inl (lt_ne (Nat.lt_of_lt_of_le lt_b1 sz_1_3) ge_b7)) (nwS (Or.inl (lt_ne (Nat.lt_of_lt_of_le lt_b1 K3.1) ge_b5)) (nwS (Or.inl (lt_ne (Nat.lt_of_lt_of_le lt_b1 sz_1_4) ge_b9)) (nwS (Or.inl (lt_ne (Nat.lt_of_lt_of_le lt_b1 sz_1_4) ge_b9)) nw0))))) nw0)
  have f44 := (kExa K38 (kExa K26 (kExa K20 f24)))
  have sz_1_5 := (Nat.le_trans sz_1_4 K9.1)
  have sz_1_6 := (Nat.le_trans sz_1_5 K11.1)
  have sz_1_7 := (Nat.le_trans sz_1_6 K14.1)
  have sz_1_8 := (Nat.le_trans sz_1_7 K20.1)
  have sz_1_9 := (Nat.le_trans sz_1_8 K26.1)
  have sz_0_10 := (Nat.le_trans sz_0_9 K38.1)
  obtain ⟨_, T41, L41, X41, hQ41, st41⟩ := own_face X38 hx hZ hown (w63 hw) (w64 hw) (mvT hZ (w65 hw)) (w66 hw) (w67 hw) (w68 hw) (w69 hw) (w70 hw) (w53 hw) (w71 hw) (by decide) (r_nextb1 l Z a0 hw [] b1_38 b1 .null b9 b3 T38.heap n0 (Nat.le_trans Z0 sz_0_10) Q38_1 Q38_3 Q38_4 Q38_2 f42 f43 f44 (Nat.le_trans Z0 (Nat.le_trans sz_0_9 Q38_0)) (Ne.symm (lt_ne (Nat.lt_of_lt_of_le lt_b1 sz_1_9) Q38_0))) rfl Q38_1 (W := 0) (by decide) (g := (mkF m 228 #[vi p0, vi p1, vi 3, vi 1, vr b1, vr b3, vr b5, vr b7, vr b9, vr b5, vr b1, vi 1] [(.ref b1_38)])) rfl (by rw [hml]; rfl) (argsL := []) (rest := []) (lenOf pd_7 rfl) rfl rfl (own_wr rfl rfl) (hb hby at_228)
  obtain ⟨rfl, N41q, K41, Q41_0, Q41_1⟩ := hQ41
  have N41 := Fr.app N38 N41q
  have sz_4_6 := (Nat.le_trans K9.1 K11.1)
  have sz_4_7 := (Nat.le_trans sz_4_6 K14.1)
  have sz_4_8 := (Nat.le_trans sz_4_7 K20.1)
  have sz_4_9 := (Nat.le_trans sz_4_8 K26.1)
  have f46 := (kFld K41 (kFld K38 Q26_0 nw0) (nwS (Or.inl (lt_ne (Nat.lt_of_lt_of_le lt_b7 sz_4_9) Q38_0)) (nwS (Or.inl (lt_ne (Nat.lt_of_lt_of_le lt_b7 sz_4_9) Q38_0)) nw0)))
  have f47 := (kExa K41 (kExa K38 (kExa K26 f30)))
  have f48 := (kFld K41 (kFld K38 f35 nw0) (nwS (Or.inl (lt_ne (Nat.lt_of_lt_of_le lt_b7 sz_4_9) Q38_0)) (nwS (Or.inl (lt_ne (Nat.lt_of_lt_of_le lt_b7 sz_4_9) Q38_0)) nw0)))
  have sz_3_5 := (Nat.le_trans K7.1 K9.1)
  have sz_3_6 := (Nat.le_trans sz_3_5 K11.1)
  have sz_3_7 := (Nat.le_trans sz_3_6 K14.1)
  have sz_3_8 := (Nat.le_trans sz_3_7 K20.1)
  have sz_3_9 := (Nat.le_trans sz_3_8 K26.1)
  have f49 := (kFld K41 (kFld K38 Q26_1 nw0) (nwS (Or.inl (lt_ne (Nat.lt_of_lt_of_le lt_b5 sz_3_9) Q38_0)) (nwS (Or.inl (lt_ne (Nat.lt_of_lt_of_le lt_b5 sz_3_9) Q38_0)) nw0)))
  have lt_b9 : b9 < h9.size := Exa.lt A9
  have sz_5_7 := (Nat.le_trans K11.1 K14.1)
  have sz_5_8 := (Nat.le_trans sz_5_7 K20.1)
  have sz_5_9 := (Nat.le_trans sz_5_8 K26.1)
  have f50 := (kFld K41 (kFld K38 Q26_2 nw0) (nwS (Or.inl (lt_ne (Nat.lt_of_lt_of_le lt_b9 sz_5_9) Q38_0)) (nwS (Or.inl (lt_ne (Nat.lt_of_lt_of_le lt_b9 sz_5_9) Q38_0)) nw0)))
  have f51 := (kExa K41 f42)
  have f52 := (kExa K41 (kExa K38 f37))
  have f53 := (kFld K41 (kFld K38 Q26_3' nw0) (nwS (Or.inl (lt_ne (Nat.lt_of_lt_of_le lt_b9 sz_5_9) Q38_0)) (nwS (Or.inl (lt_ne (Nat.lt_of_lt_of_le lt_b9 sz_5_9) Q38_0)) nw0)))
  have sz_0_11 := (Nat.le_trans sz_0_10 K41.1)
  obtain ⟨_, T45, L45, X45, hQ45, st45⟩ := own_virtual X41 hx hZ hown (w80 hw) (w81 hw) (notFace_of_selects (args := #[]) (mvT hZ (w83 hw))) (w83 hw) (w82 hw) (w16 hw) (w84 hw) (by decide) (r_rem1 l Z a0 hw [] b9 b7 b5 (.ref b7) (.ref b7) (4 : Int32) T41.heap n0 (Nat.le_trans Z0 sz_0_11) f46 f47 f48 f49 (Nat.le_trans Z0 (Nat.le_trans sz_0_2 ge_b5)) (Ne.symm (lt_ne lt_b5 ge_b7)) f50 (Ne.symm (lt_ne (Nat.lt_of_lt_of_le lt_b5 K7.1) ge_b9)) f51 (Nat.le_trans Z0 (Nat.le_trans sz_0_4 ge_b9)) (Ne.symm (lt_ne lt_b7 ge_b9)) f52 (Nat.le_trans Z0 (Nat.le_trans sz_0_3 ge_b7)) f53) rfl f51 (W := 0) (by decide) (g := (mkF m 258 #[vi p0, vi p1, vi 3, vi 1, vr b1, vr b3, vr b5, vr b7, vr b9, vr b5, vr b1, vi 1] [(.ref b7), (.ref b9)])) rfl (by rw [hml]; rfl) (argsL := [(.ref b7)]) (rest := []) (lenOf pd_4 rfl) rfl rfl (own_wr rfl rfl) (hb hby at_258)
  obtain ⟨rfl, N45q, K45, Q45_0, Q45_1, Q45_2, Q45_3, Q45_4⟩ := hQ45
  have N45 := Fr.app N41 N45q
  have Q45_4' : Fd3 Z T45.heap b9 (.int 3) := Eq.mp (congrArg (fun z => Fd3 Z T45.heap b9 (Value.int z)) (by decide : ((4 : Int32) - (1 : Int32)) = (3 : Int32))) Q45_4
  have sz_0_12 := (Nat.le_trans sz_0_11 K45.1)
  have f55 := (kExa K45 f51)
  obtain ⟨_, T54, L54, X54, hQ54, st54⟩ := own_virtual X45 hx hZ hown (w34 hw) (w35 hw) (notFace_of_selects (args := #[]) (mvT hZ (w37 hw))) (w37 hw) (w36 hw) (w16 hw) (w38 hw) (by decide) (r_size l Z a0 hw [] b9 (3 : Int32) T45.heap n0 (Nat.le_trans Z0 sz_0_12) Q45_4') rfl f55 (W := 0) (by decide) (g := (mkF m 263 #[vi p0, vi p1, vi 3, vi 1, vr b1, vr b3, vr b5, vr b7, vr b9, vr b5, vr b1, vi 1] [(.ref b9)])) rfl (by rw [hml]; rfl) (argsL := []) (rest := []) (lenOf pd_5 rfl) rfl rfl (own_wr rfl rfl) (hb hby at_263)
  obtain ⟨rfl, N54q, e54⟩ := hQ54
  have N54 := Fr.app N45 N54q
  obtain ⟨_, T56, L56, X56, hQ56, st56⟩ := own_virtual X54 hx hZ hown (w39 hw) (w40 hw) (notFace_of_selects (args := #[]) (mvT hZ (w42 hw))) (w42 hw) (w41 hw) (w16 hw) (w43 hw) (by decide) (r_after0 l Z a0 hw [] b9 b5 T45.heap n0 (Nat.le_trans Z0 sz_0_12) Q45_0) e54 f55 (W := 0) (by decide) (g := (mkF m 319 #[vi p0, vi p1, vi 3, vi 1, vr b1, vr b3, vr b5, vr b7, vr b9, vr b5, vr b1, vi 1] [(.ref b5), (.ref b9)])) rfl (by rw [hml]; rfl) (argsL := [(.ref b5)]) (rest := []) (lenOf pd_2 rfl) rfl rfl (own_wr rfl rfl) (hb hby at_319)
  obtain ⟨rfl, N56q, e56⟩ := hQ56
  have N56 := Fr.app N54 N56q
  have f58 := (kFld K45 (kFld K41 (kFld K38 f39 nw0) (nwS (Or.inl (lt_ne (Nat.lt_of_lt_of_le lt_b9 sz_5_9) Q38_0)) (nwS (Or.inl (lt_ne (Nat.lt_of_lt_of_le lt_b9 sz_5_9) Q38_0)) nw0))) (nwS (Or.inl (Ne.symm (lt_ne (Nat.lt_of_lt_of_le lt_b5 K7.1) ge_b9))) (nwS (Or.inr (sn_3 hw)) (nwS (Or.inl (Ne.symm (lt_ne lt_b7 ge_b9))) (nwS (Or.inl (Ne.symm (lt_ne lt_b7 ge_b9))) (nwS (Or.inr (sn_4 hw)) nw0))))))
  obtain ⟨_, T57, L57, X57, hQ57, st57⟩ := own_virtual X56 hx hZ hown (w46 hw) (w47 hw) (notFace_of_selects (args := #[]) (mvT hZ (w49 hw))) (w49 hw) (w48 hw) (w16 hw) (w50 hw) (by decide) (r_iter1 l Z a0 hw [] b9 b1 T45.heap n0 (Nat.le_trans Z0 sz_0_12) f58) e56 f55 (W := 0) (by decide) (g := (mkF m 327 #[vi p0, vi p1, vi 3, vi 1, vr b1, vr b3, vr b5, vr b7, vr b9, vr b5, vr b1, vi 1] [(.ref b9)])) rfl (by rw [hml]; rfl) (argsL := []) (rest := []) (lenOf pd_6 rfl) rfl rfl (own_wr rfl rfl) (hb hby at_327)
  obtain ⟨b1_57, rfl, N57q, K57, Q57_0, Q57_1, Q57_2, Q57_3, Q57_4⟩ := hQ57
  have N57 := Fr.app N56 N57q
  have f61 := (kExa K57 f55)
  have f62 := (kFld K57 (kFld K45 (kFld K41 f43 (nwS (Or.inl (lt_ne (Nat.lt_of_lt_of_le lt_b1 sz_1_9) Q38_0)) (nwS (Or.inl (lt_ne (Nat.lt_of_lt_of_le lt_b1 sz_1_9) Q38_0)) nw0))) (nwS (Or.inl (lt_ne (Nat.lt_of_lt_of_le lt_b1 K3.1) ge_b5)) (nwS (Or.inl (lt_ne (Nat.lt_of_lt_of_le lt_b1 sz_1_4) ge_b9)) (nwS (Or.inl (lt_ne (Nat.lt_of_lt_of_le lt_b1 sz_1_3) ge_b7)) (nwS (Or.inl (lt_ne (Nat.lt_of_lt_of_le lt_b1 sz_1_3) ge_b7)) (nwS (Or.inl (lt_ne (Nat.lt_of_lt_of_le lt_b1 sz_1_4) ge_b9)) nw0)))))) nw0)
  have f63 := (kExa K57 (kExa K45 (kExa K41 f44)))
  have sz_1_10 := (Nat.le_trans sz_1_9 K38.1)
  have sz_1_11 := (Nat.le_trans sz_1_10 K41.1)
  have sz_1_12 := (Nat.le_trans sz_1_11 K45.1)
  have sz_0_13 := (Nat.le_trans sz_0_12 K57.1)
  obtain ⟨_, T60, L60, X60, hQ60, st60⟩ := own_face X57 hx hZ hown (w63 hw) (w64 hw) (mvT hZ (w65 hw)) (w66 hw) (w67 hw) (w68 hw) (w69 hw) (w70 hw) (w53 hw) (w71 hw) (by decide) (r_nextb1 l Z a0 hw [] b1_57 b1 .null b9 b3 T57.heap n0 (Nat.le_trans Z0 sz_0_13) Q57_1 Q57_3 Q57_4 Q57_2 f61 f62 f63 (Nat.le_trans Z0 (Nat.le_trans sz_0_12 Q57_0)) (Ne.symm (lt_ne (Nat.lt_of_lt_of_le lt_b1 sz_1_12) Q57_0))) rfl Q57_1 (W := 0) (by decide) (g := (mkF m 330 #[vi p0, vi p1, vi 3, vi 1, vr b1, vr b3, vr b5, vr b7, vr b9, vr b5, vr b1, vi 1] [(.ref b1_57)])) rfl (by rw [hml]; rfl) (argsL := []) (rest := []) (lenOf pd_7 rfl) rfl rfl (own_wr rfl rfl) (hb hby at_330)
  obtain ⟨rfl, N60q, K60, Q60_0, Q60_1⟩ := hQ60
  have N60 := Fr.app N57 N60q
  refine ⟨T60, _, some (.int 1), X60, (fun h => by cases h <;> rfl), ?_, fun fs hr => ?_⟩
  · show Q_law n0 _ _
    exact ⟨rfl, N60⟩
  · refine t_iloadN 1 X0.here hx (hb hby at_0) rfl rfl ?_
    refine t_iconst 2 (r := 3) X0.here hx (hb hby at_1) (by decide) rfl ?_
    refine t_iand 3 (r := 3) X0.here hx (hb hby at_2) hk rfl ?_
    refine t_istoreN (pc' := 4) (L' := #[vi p0, vi p1, vi 3, .unset, .unset, .unset, .unset, .unset, .unset, .unset, .unset, .unset]) X0.here hx (hb hby at_3) rfl rfl ?_
    refine t_iloadN 5 X0.here hx (hb hby at_4) rfl rfl ?_
    refine t_iconst 6 (r := 1) X0.here hx (hb hby at_5) (by decide) rfl ?_
    refine t_iand 7 (r := 1) X0.here hx (hb hby at_6) hm rfl ?_
    refine t_ifNo 10 X0.here hx (hb hby at_7) (by decide) rfl ?_
    refine t_iconst 11 (r := 1) X0.here hx (hb hby at_10) (by decide) rfl ?_
    refine t_goto (pc := 11) 15 X0.here hx (hb hby at_11) (by decide) (by decide) ?_
    refine t_istoreN (pc' := 16) (L' := #[vi p0, vi p1, vi 3, vi 1, .unset, .unset, .unset, .unset, .unset, .unset, .unset, .unset]) X0.here hx (hb hby at_15) rfl rfl ?_
    refine st1 _ ?_
    refine t_dup 20 X1.here hx (hb hby at_19) rfl rfl ?_
    refine st2 _ ?_
    refine t_astore (pc' := 25) (L' := #[vi p0, vi p1, vi 3, vi 1, vr b1, .unset, .unset, .unset, .unset, .unset, .unset, .unset]) X2.here hx (hb hby at_23) rfl rfl rfl ?_
    refine st3 _ ?_
    refine t_dup 29 X3.here hx (hb hby at_28) rfl rfl ?_
    refine st4 _ ?_
    refine t_astore (pc' := 34) (L' := #[vi p0, vi p1, vi 3, vi 1, vr b1, vr b3, .unset, .unset, .unset, .unset, .unset, .unset]) X4.here hx (hb hby at_32) rfl rfl rfl ?_
    refine st5 _ ?_
    refine t_dup 38 X5.here hx (hb hby at_37) rfl rfl ?_
    refine st6 _ ?_
    refine t_astore (pc' := 43) (L' := #[vi p0, vi p1, vi 3, vi 1, vr b1, vr b3, vr b5, .unset, .unset, .unset, .unset, .unset]) X6.here hx (hb hby at_41) rfl rfl rfl ?_
    refine st7 _ ?_
    refine t_dup 47 X7.here hx (hb hby at_46) rfl rfl ?_
    refine st8 _ ?_
    refine t_astore (pc' := 52) (L' := #[vi p0, vi p1, vi 3, vi 1, vr b1, vr b3, vr b5, vr b7, .unset, .unset, .unset, .unset]) X8.here hx (hb hby at_50) rfl rfl rfl ?_
    refine st9 _ ?_
    refine t_dup 56 X9.here hx (hb hby at_55) rfl rfl ?_
    refine st10 _ ?_
    refine t_astore (pc' := 61) (L' := #[vi p0, vi p1, vi 3, vi 1, vr b1, vr b3, vr b5, vr b7, vr b9, .unset, .unset, .unset]) X10.here hx (hb hby at_59) rfl rfl rfl ?_
    refine t_iloadN 62 X10.here hx (hb hby at_61) rfl rfl ?_
    refine t_iconst 63 (r := 1) X10.here hx (hb hby at_62) (by decide) rfl ?_
    refine t_icmpNo 66 X10.here hx (hb hby at_63) (by decide) rfl ?_
    refine t_aload 68 X10.here hx (hb hby at_66) rfl rfl rfl ?_
    refine t_aload 70 X10.here hx (hb hby at_68) rfl rfl rfl ?_
    refine st11 _ ?_
    refine t_iloadN 74 X11.here hx (hb hby at_73) rfl rfl ?_
    refine t_iconst 75 (r := 2) X11.here hx (hb hby at_74) (by decide) rfl ?_
    refine t_icmpNo 78 X11.here hx (hb hby at_75) (by decide) rfl ?_
    refine t_aload 80 X11.here hx (hb hby at_78) rfl rfl rfl ?_
    refine t_aload 82 X11.here hx (hb hby at_80) rfl rfl rfl ?_
    refine st14 _ ?_
    refine t_iloadN 86 X14.here hx (hb hby at_85) rfl rfl ?_
    refine t_iconst 87 (r := 3) X14.here hx (hb hby at_86) (by decide) rfl ?_
    refine t_icmpNo 90 X14.here hx (hb hby at_87) (by decide) rfl ?_
    refine t_aload 92 X14.here hx (hb hby at_90) rfl rfl rfl ?_
    refine t_aload 94 X14.here hx (hb hby at_92) rfl rfl rfl ?_
    refine st20 _ ?_
    refine t_iloadN 98 X20.here hx (hb hby at_97) rfl rfl ?_
    refine t_ifYes (pc := 98) 105 X20.here hx (hb hby at_98) (by decide) (by decide) (by decide) ?_
    refine t_iloadN 106 X20.here hx (hb hby at_105) rfl rfl ?_
    refine t_iconst 107 (r := 1) X20.here hx (hb hby at_106) (by decide) rfl ?_
    refine t_icmpYes (pc := 107) 115 X20.here hx (hb hby at_107) (by decide) (by decide) (by decide) ?_
    refine t_iloadN 116 X20.here hx (hb hby at_115) rfl rfl ?_
    refine t_iconst 117 (r := 2) X20.here hx (hb hby at_116) (by decide) rfl ?_
    refine t_icmpYes (pc := 117) 125 X20.here hx (hb hby at_117) (by decide) (by decide) (by decide) ?_
    refine t_aload 127 X20.here hx (hb hby at_125) rfl rfl rfl ?_
    refine t_astore (pc' := 129) (L' := #[vi p0, vi p1, vi 3, vi 1, vr b1, vr b3, vr b5, vr b7, vr b9, vr b5, .unset, .unset]) X20.here hx (hb hby at_127) rfl rfl rfl ?_
    refine t_iloadN 130 X20.here hx (hb hby at_129) rfl rfl ?_
    refine t_ifYes (pc := 130) 138 X20.here hx (hb hby at_130) (by decide) (by decide) (by decide) ?_
    refine t_aload 140 X20.here hx (hb hby at_138) rfl rfl rfl ?_
    refine t_astore (pc' := 142) (L' := #[vi p0, vi p1, vi 3, vi 1, vr b1, vr b3, vr b5, vr b7, vr b9, vr b5, vr b1, .unset]) X20.here hx (hb hby at_140) rfl rfl rfl ?_
    refine t_aload 144 X20.here hx (hb hby at_142) rfl rfl rfl ?_
    refine t_aload 146 X20.here hx (hb hby at_144) rfl rfl rfl ?_
    refine st26 _ ?_
    refine t_aload 151 X26.here hx (hb hby at_149) rfl rfl rfl ?_
    refine st32 _ ?_
    refine t_iloadN 155 X32.here hx (hb hby at_154) rfl rfl ?_
    refine t_iconst 156 (r := 1) X32.here hx (hb hby at_155) (by decide) rfl ?_
    refine t_iadd 157 (r := 4) X32.here hx (hb hby at_156) (by decide : ((3 : Int32) + (1 : Int32)) = (4 : Int32)) rfl ?_
    refine t_icmpNo 160 X32.here hx (hb hby at_157) (by decide) rfl ?_
    refine t_iconst 161 (r := 1) X32.here hx (hb hby at_160) (by decide) rfl ?_
    refine t_goto (pc := 161) 165 X32.here hx (hb hby at_161) (by decide) (by decide) ?_
    refine t_istore (pc' := 167) (L' := #[vi p0, vi p1, vi 3, vi 1, vr b1, vr b3, vr b5, vr b7, vr b9, vr b5, vr b1, vi 1]) X32.here hx (hb hby at_165) rfl rfl ?_
    refine t_iload 169 X32.here hx (hb hby at_167) rfl rfl ?_
    refine t_ifNo 172 X32.here hx (hb hby at_169) (by decide) rfl ?_
    refine t_aload 174 X32.here hx (hb hby at_172) rfl rfl rfl ?_
    refine t_aload 176 X32.here hx (hb hby at_174) rfl rfl rfl ?_
    refine st34 _ ?_
    refine t_ifnonnullNo 182 X34.here hx (hb hby at_179) rfl ?_
    refine t_iconst 183 (r := 1) X34.here hx (hb hby at_182) (by decide) rfl ?_
    refine t_goto (pc := 183) 187 X34.here hx (hb hby at_183) (by decide) (by decide) ?_
    refine t_istore (pc' := 189) (L' := #[vi p0, vi p1, vi 3, vi 1, vr b1, vr b3, vr b5, vr b7, vr b9, vr b5, vr b1, vi 1]) X34.here hx (hb hby at_187) rfl rfl ?_
    refine t_iload 191 X34.here hx (hb hby at_189) rfl rfl ?_
    refine t_ifNo 194 X34.here hx (hb hby at_191) (by decide) rfl ?_
    refine t_aload 196 X34.here hx (hb hby at_194) rfl rfl rfl ?_
    refine t_ifnullNo 199 X34.here hx (hb hby at_196) rfl ?_
    refine t_aload 201 X34.here hx (hb hby at_199) rfl rfl rfl ?_
    refine t_aload 203 X34.here hx (hb hby at_201) rfl rfl rfl ?_
    refine st36 _ ?_
    refine t_aload 208 X36.here hx (hb hby at_206) rfl rfl rfl ?_
    refine Jvm.RoadKit.acmp (g := (mkF m 208 #[vi p0, vi p1, vi 3, vi 1, vr b1, vr b3, vr b5, vr b7, vr b9, vr b5, vr b1, vi 1] [(.ref b7), (.ref b7)])) X36 hx rfl rfl rfl (pc0 := 208) (pc' := 211) (same := true) rfl (hb hby at_208) rfl (decide_eq_true rfl) (by decide) (by decide) ?_
    refine t_iconst 212 (r := 1) X36.here hx (hb hby at_211) (by decide) rfl ?_
    refine t_goto (pc := 212) 216 X36.here hx (hb hby at_212) (by decide) (by decide) ?_
    refine t_istore (pc' := 218) (L' := #[vi p0, vi p1, vi 3, vi 1, vr b1, vr b3, vr b5, vr b7, vr b9, vr b5, vr b1, vi 1]) X36.here hx (hb hby at_216) rfl rfl ?_
    refine t_iload 220 X36.here hx (hb hby at_218) rfl rfl ?_
    refine t_ifNo 223 X36.here hx (hb hby at_220) (by decide) rfl ?_
    refine t_aload 225 X36.here hx (hb hby at_223) rfl rfl rfl ?_
    refine st38 _ ?_
    refine st41 _ ?_
    refine t_aload 235 X41.here hx (hb hby at_233) rfl rfl rfl ?_
    refine Jvm.RoadKit.acmp (g := (mkF m 235 #[vi p0, vi p1, vi 3, vi 1, vr b1, vr b3, vr b5, vr b7, vr b9, vr b5, vr b1, vi 1] [(.ref b1), (.ref b1)])) X41 hx rfl rfl rfl (pc0 := 235) (pc' := 238) (same := true) rfl (hb hby at_235) rfl (decide_eq_true rfl) (by decide) (by decide) ?_
    refine t_iconst 239 (r := 1) X41.here hx (hb hby at_238) (by decide) rfl ?_
    refine t_goto (pc := 239) 243 X41.here hx (hb hby at_239) (by decide) (by decide) ?_
    refine t_istore (pc' := 245) (L' := #[vi p0, vi p1, vi 3, vi 1, vr b1, vr b3, vr b5, vr b7, vr b9, vr b5, vr b1, vi 1]) X41.here hx (hb hby at_243) rfl rfl ?_
    refine t_iload 247 X41.here hx (hb hby at_245) rfl rfl ?_
    refine t_ifNo 250 X41.here hx (hb hby at_247) (by decide) rfl ?_
    refine t_iloadN 251 X41.here hx (hb hby at_250) rfl rfl ?_
    refine t_ifNo 254 X41.here hx (hb hby at_251) (by decide) rfl ?_
    refine t_aload 256 X41.here hx (hb hby at_254) rfl rfl rfl ?_
    refine t_aload 258 X41.here hx (hb hby at_256) rfl rfl rfl ?_
    refine st45 _ ?_
    refine t_aload 263 X45.here hx (hb hby at_261) rfl rfl rfl ?_
    refine st54 _ ?_
    refine t_iloadN 267 X54.here hx (hb hby at_266) rfl rfl ?_
    refine t_icmpNo 270 X54.here hx (hb hby at_267) (by decide) rfl ?_
    refine t_iconst 271 (r := 1) X54.here hx (hb hby at_270) (by decide) rfl ?_
    refine t_goto (pc := 271) 275 X54.here hx (hb hby at_271) (by decide) (by decide) ?_
    refine t_istore (pc' := 277) (L' := #[vi p0, vi p1, vi 3, vi 1, vr b1, vr b3, vr b5, vr b7, vr b9, vr b5, vr b1, vi 1]) X54.here hx (hb hby at_275) rfl rfl ?_
    refine t_aload 279 X54.here hx (hb hby at_277) rfl rfl rfl ?_
    refine t_ifnonnullYes (pc := 279) 310 X54.here hx (hb hby at_279) (by decide) (by decide) ?_
    refine t_iload 312 X54.here hx (hb hby at_310) rfl rfl ?_
    refine t_ifNo 315 X54.here hx (hb hby at_312) (by decide) rfl ?_
    refine t_aload 317 X54.here hx (hb hby at_315) rfl rfl rfl ?_
    refine t_aload 319 X54.here hx (hb hby at_317) rfl rfl rfl ?_
    refine st56 _ ?_
    refine t_ifnonnullNo 325 X56.here hx (hb hby at_322) rfl ?_
    refine t_aload 327 X56.here hx (hb hby at_325) rfl rfl rfl ?_
    refine st57 _ ?_
    refine st60 _ ?_
    refine t_aload 337 X60.here hx (hb hby at_335) rfl rfl rfl ?_
    refine Jvm.RoadKit.acmp (g := (mkF m 337 #[vi p0, vi p1, vi 3, vi 1, vr b1, vr b3, vr b5, vr b7, vr b9, vr b5, vr b1, vi 1] [(.ref b1), (.ref b1)])) X60 hx rfl rfl rfl (pc0 := 337) (pc' := 340) (same := true) rfl (hb hby at_337) rfl (decide_eq_true rfl) (by decide) (by decide) ?_
    refine t_iconst 341 (r := 1) X60.here hx (hb hby at_340) (by decide) rfl ?_
    refine t_goto (pc := 341) 345 X60.here hx (hb hby at_341) (by decide) (by decide) ?_
    refine t_istore (pc' := 347) (L' := #[vi p0, vi p1, vi 3, vi 1, vr b1, vr b3, vr b5, vr b7, vr b9, vr b5, vr b1, vi 1]) X60.here hx (hb hby at_345) rfl rfl ?_
    refine t_iload 349 X60.here hx (hb hby at_347) rfl rfl ?_
    exact retN X60 hx (t := .boolean) hret (by simp) (hb hby at_349) hr
set_option maxRecDepth 65536 in
set_option maxHeartbeats 40000000 in
theorem rm_law (l : Launch) (Z : State) (a0 : Array Value) (hw : HW Z a0) (ws : List Jvm.Cond) (p0 p1 : Int32) (h0 : Heap) (n0 : Nat) (Z0 : n0 ≤ h0.size) :
    MetFree l x (head1 (Jvm.Cond.code x code maxLocals ret :: ws) room_1) (fun a U => a = #[(.int p0), (.int p1)] ∧ Z.Warmed39 U.vm ∧ U.heap = h0) (fun _ _ _ _ _ => True) (fun _ U o U' => ∃ v L, o = .returned v ∧ Q_law n0 v L ∧ FrameEnd U o U' L 24 128) := by
  rcases own_and3 p0 with hk | hk | hk | hk <;> rcases and_one p1 with hm | hm
  · exact law_0_0 l Z a0 hw ws p0 p1 h0 n0 Z0 hk hm
  · exact law_0_1 l Z a0 hw ws p0 p1 h0 n0 Z0 hk hm
  · exact law_1_0 l Z a0 hw ws p0 p1 h0 n0 Z0 hk hm
  · exact law_1_1 l Z a0 hw ws p0 p1 h0 n0 Z0 hk hm
  · exact law_2_0 l Z a0 hw ws p0 p1 h0 n0 Z0 hk hm
  · exact law_2_1 l Z a0 hw ws p0 p1 h0 n0 Z0 hk hm
  · exact law_3_0 l Z a0 hw ws p0 p1 h0 n0 Z0 hk hm
  · exact law_3_1 l Z a0 hw ws p0 p1 h0 n0 Z0 hk hm
set_option maxRecDepth 65536 in
set_option maxHeartbeats 40000000 in
theorem comes_1 {Post : Tables → Env → Array Value → State → Outcome → State → Prop} (hpost : ∀ tb e args s v u, (limb_1_1.after args s (.returned v) u = true ∧ limb_1_2.after args s (.returned v) u = true ∧ True) → FrameEnd s (.returned v) u (Jvm.fieldLocs frame_1_writes args s ++ Jvm.arrayLocs frame_1_arrays args s ++ Jvm.staticLocs frame_1_statics s) 24 128 → Post tb e args s (.returned v) u) :
    ArmFor flags0 classFile x code maxLocals ret World_1 tables_1 room_1 Calls_1 rest_1 Pre_1 Post := by
  intro l hfl _ _ p e ha hc hk s m args below hf hA hF happ hP
  obtain ⟨hcalls, hrest, hpre⟩ := hP
  obtain ⟨-, -, -, hnamed, -, -, -, hat⟩ := (Spec.applies_iff hf).mp happ
  obtain ⟨hg, hn⟩ := and_e (Cond.before_iff.mp (show (Jvm.Cond.and given_1 narrow_1).before args s = true from hpre))
  obtain ⟨g1, g2⟩ := and_e hg
  obtain ⟨g3, g4⟩ := and_e g2
  obtain ⟨w0, w1, rfl⟩ : ∃ w0 w1 : Value, args = #[w0, w1] := by
    have hs : args.size = 2 := by simpa [Cond.value, given_1] using g1
    obtain ⟨L⟩ := args
    match L, hs with
    | [w0, w1], _ => exact ⟨w0, w1, rfl⟩
  have hw := fun d (hd : d ∈ tables_1) => atoms_spec (ws := Jvm.Cond.code x code maxLocals ret :: tables_1) hat d (List.mem_cons_of_mem _ hd)
  have hfit : Fit s := fun {y c} hc i hi => by
    obtain ⟨ha, rfl⟩ := Array.getElem?_eq_some_iff.mp hc
    have q := List.all_eq_true.mp ((Array.all_eq_true_iff_forall_mem.mp hF) _ (Array.getElem_mem ha)) i (List.mem_range.mpr hi)
    simpa [Array.getElem?_eq_getElem hi] using q
  obtain ⟨i0, ei0⟩ := is_v g3
  obtain rfl : w0 = (.int i0) := Option.some.inj ei0
  obtain ⟨i1, ei1⟩ := is_v g4
  obtain rfl : w1 = (.int i1) := Option.some.inj ei1
  obtain ⟨n, o, h1, h2, h3, _, L, rfl, ⟨rfl, N⟩, hq⟩ := rm_law l s _ hw tables_1 i0 i1 s.heap s.heap.size (Nat.le_refl _) p e ha hc hk s m _ below hf ((Spec.applies_iff_loose hf).mp happ).1 ⟨rfl, State.Warmed39.refl s, rfl⟩ trivial
  refine ⟨n, _, h1, h2, h3, hpost _ _ _ _ _ _ ⟨Cond.after_iff.mpr rfl, Cond.after_iff.mpr (eq_i res_at (Term.int_eval (1)) rfl), trivial⟩ ⟨hq.1, hq.2.1, (hq.2.2.sift fun y hy => Or.inr (N y hy)).mono (by decide) (by decide)⟩⟩
theorem main_1_1 : Claimed_1_1 := comes_1 fun _ _ _ _ _ _ h hF => ⟨h.1, hF⟩
theorem main_1_2 : Claimed_1_2 := comes_1 fun _ _ _ _ _ _ h hF => ⟨h.2.1, hF⟩
end Jvm.Pilot.@@N@@
namespace Jvm.Pilot.@@N@@
open Jvm Jvm.ClassFile Sem Op Lib Jvm.Free Jvm.Stand Jvm.Pilot.@@N@@.Jvm.D
/-! MADE BY PROGRAM (witnessworld.py) out of the Statement's table words and the real class files: 13 classes; the members and pool entries that the words name. The judged class is class 2, her method 1. -/
namespace start1
open Jvm.ClassFile
def u (s : String) : CpInfo := .utf8 (stringToUtf16 s)
/-- a pool by its gaps: so many unusable entries, then the entry; so many at the end -/
def gap : Nat → List CpInfo → List CpInfo
  | 0, r => r
  | n + 1, r => .unusable :: gap n r
def poolList (es : List (Nat × CpInfo)) (last : Nat) : List CpInfo := es.foldr (fun e r => gap e.1 (e.2 :: r)) (gap last [])
def pool (es : List (Nat × CpInfo)) (last : Nat) : Array CpInfo := ⟨poolList es last⟩
def fileOf (pool : Array CpInfo) (this : Nat) (attrs : Array Attribute := #[]) (ms : Array MethodInfo := #[]) (fl : Nat := 33) (sup : Nat := 0) (ifs : Array Nat := #[]) (fds : Array FieldInfo := #[]) : ClassFile where
  minorVersion := 0
  majorVersion := 65
  constantPool := pool
  accessFlags := fl
  thisClass := this
  superClass := sup
  interfaces := ifs
  fields := fds
  methods := ms
  attributes := attrs
def plain (name : String) (sup : Option ClassId) : Class where
  name := name
  kind := .ordinary
  loader := none
  accessFlags := 33
  super := sup
  interfaces := #[]
  cf := none
  fields := #[]
  methods := #[]
  instanceTypes := #[]
  staticTypes := #[]
  resolved := #[]
  callSites := []
  init := .initialized
  statics := none
  mirror := none

def pool0 : Array CpInfo := pool [(5, u "<init>"), (0, u "()V"), (1, .class_ 10), (1, u "java/lang/Object")] 113

def k0c0 : Code := { maxStack := 0, maxLocals := 1, code := object_method_1_code, exceptionTable := #[], attributes := #[] }
def k0m0 : Method := { name := "<init>", desc := "()V", sig := { parameters := [], returnType := none }, accessFlags := 1, code := some k0c0 }
/-- java/lang/Object -/
def k0 : Class := { plain "java/lang/Object" none with
  accessFlags := 33
  interfaces := #[]
  cf := some (fileOf pool0 8 #[] #[{ accessFlags := 1, nameIndex := 5, descriptorIndex := 6, attributes := #[] }] 33 0 #[] #[])
  fields := #[]
  methods := #[k0m0]
  instanceTypes := #[]
  staticTypes := #[]
  resolved := Array.replicate 124 none
  statics := none }

def pool1 : Array CpInfo := pool [(1, .methodref 2 3), (0, .class_ 4), (0, .nameAndType 5 6), (0, u "java/lang/Object"), (0, u "<init>"), (0, u "()V"), (0, .class_ 8), (0, u "com/example/bourse/bourse/sim/InsertionOrder$Link"), (0, u "before"), (0, u "Ljava/lang/Object;"), (2, u "after"), (6, .class_ 21), (0, u "com/example/bourse/bourse/sim/InsertionOrder")] 2

def k1c0 : Code := { maxStack := 1, maxLocals := 1, code := prog_160_method_1_code, exceptionTable := #[], attributes := #[] }
def k1m0 : Method := { name := "<init>", desc := "()V", sig := { parameters := [], returnType := none }, accessFlags := 0, code := some k1c0 }
/-- com/example/bourse/bourse/sim/InsertionOrder$Link -/
def k1 : Class := { plain "com/example/bourse/bourse/sim/InsertionOrder$Link" (some 0) with
  accessFlags := 1056
  interfaces := #[]
  cf := some (fileOf pool1 7 #[.nestHost 20] #[{ accessFlags := 0, nameIndex := 5, descriptorIndex := 6, attributes := #[] }] 1056 2 #[] #[{ accessFlags := 2, nameIndex := 9, descriptorIndex := 10, attributes := #[] }, { accessFlags := 2, nameIndex := 13, descriptorIndex := 10, attributes := #[] }])
  fields := #[{ name := "before", type := (.object "java/lang/Object"), accessFlags := 2, slot := 0, constantValue := 0 }, { name := "after", type := (.object "java/lang/Object"), accessFlags := 2, slot := 1, constantValue := 0 }]
  methods := #[k1m0]
  instanceTypes := #[(.object "java/lang/Object"), (.object "java/lang/Object")]
  staticTypes := #[]
  resolved := Array.replicate 24 none
  statics := none }

def pool2 : Array CpInfo := pool [(1, .methodref 2 3), (0, .class_ 4), (0, .nameAndType 5 6), (0, u "com/example/bourse/bourse/sim/InsertionOrder$Link"), (0, u "<init>"), (0, u "()V"), (0, .class_ 8), (0, u "com/example/bourse/bourse/sim/InsertionOrderAddPinLaw"), (0, .methodref 7 3), (0, .class_ 11), (0, u "com/example/bourse/bourse/sim/InsertionOrder"), (0, .methodref 10 3), (0, .methodref 10 14), (0, .nameAndType 15 16), (0, u "add"), (0, u "(Lcom/example/bourse/bourse/sim/InsertionOrder$Link;)V"), (0, .methodref 10 18), (0, .nameAndType 19 20), (0, u "size"), (0, u "()I"), (0, .methodref 10 22), (0, .nameAndType 23 24), (0, u "after"), (0, u "(Lcom/example/bourse/bourse/sim/InsertionOrder$Link;)Lcom/example/bourse/bourse/sim/InsertionOrder$Link;"), (0, .methodref 10 26), (0, .nameAndType 27 28), (0, u "iterator"), (0, u "()Ljava/util/Iterator;"), (0, .interfaceMethodref 30 31), (0, .class_ 32), (0, .nameAndType 33 34), (0, u "java/util/Iterator"), (0, u "next"), (0, u "()Ljava/lang/Object;"), (0, .methodref 10 36), (0, .nameAndType 37 16), (0, u "remove"), (0, .interfaceMethodref 30 39), (0, .nameAndType 40 41), (0, u "hasNext"), (0, u "()Z"), (2, u "law"), (0, u "(II)Z")] 7

def k2c0 : Code := { maxStack := 1, maxLocals := 1, code := method_1_code, exceptionTable := #[], attributes := #[] }
def k2m0 : Method := { name := "<init>", desc := "()V", sig := { parameters := [], returnType := none }, accessFlags := 1, code := some k2c0 }
def k2c1 : Code := { maxStack := 3, maxLocals := 12, code := code, exceptionTable := #[], attributes := #[] }
def k2m1 : Method := { name := "law", desc := "(II)Z", sig := { parameters := [.int, .int], returnType := some .boolean }, accessFlags := 9, code := some k2c1 }
/-- com/example/bourse/bourse/sim/InsertionOrderAddPinLaw -/
def k2 : Class := { plain "com/example/bourse/bourse/sim/InsertionOrderAddPinLaw" (some 1) with
  accessFlags := 49
  interfaces := #[]
  cf := some (fileOf pool2 7 #[] #[{ accessFlags := 1, nameIndex := 5, descriptorIndex := 6, attributes := #[] }, { accessFlags := 9, nameIndex := 44, descriptorIndex := 45, attributes := #[] }] 49 2 #[] #[])
  fields := #[]
  methods := #[k2m0, k2m1]
  instanceTypes := #[(.object "java/lang/Object"), (.object "java/lang/Object")]
  staticTypes := #[]
  resolved := Array.replicate 53 none
  statics := none }

def pool3 : Array CpInfo := pool [(8, .class_ 10), (1, u "java/lang/Iterable"), (24, .class_ 36), (0, u "java/lang/Object")] 25

/-- java/lang/Iterable -/
def k3 : Class := { plain "java/lang/Iterable" (some 0) with
  accessFlags := 1537
  interfaces := #[]
  cf := some (fileOf pool3 8 #[] #[] 1537 35 #[] #[])
  fields := #[]
  methods := #[]
  instanceTypes := #[]
  staticTypes := #[]
  resolved := Array.replicate 62 none
  statics := none }

def pool4 : Array CpInfo := pool [(1, .methodref 2 3), (0, .class_ 4), (0, .nameAndType 5 6), (0, u "java/lang/Object"), (0, u "<init>"), (0, u "()V"), (0, .fieldref 8 9), (0, .class_ 10), (0, .nameAndType 11 12), (0, u "com/example/bourse/bourse/sim/InsertionOrder"), (0, u "last"), (0, u "Lcom/example/bourse/bourse/sim/InsertionOrder$Link;"), (0, .fieldref 14 15), (0, .class_ 16), (0, .nameAndType 17 18), (0, u "com/example/bourse/bourse/sim/InsertionOrder$Link"), (0, u "before"), (0, u "Ljava/lang/Object;"), (0, .fieldref 8 20), (0, .nameAndType 21 12), (0, u "first"), (0, .fieldref 14 23), (0, .nameAndType 24 18), (0, u "after"), (0, .fieldref 8 26), (0, .nameAndType 27 28), (0, u "size"), (0, u "I"), (0, .class_ 30), (0, u "com/example/bourse/bourse/sim/InsertionOrder$1"), (0, .methodref 29 32), (0, .nameAndType 5 33), (0, u "(Lcom/example/bourse/bourse/sim/InsertionOrder;)V"), (0, .class_ 35), (0, u "java/lang/Iterable"), (4, u "add"), (0, u "(Lcom/example/bourse/bourse/sim/InsertionOrder$Link;)V"), (2, u "remove"), (0, u "()I"), (0, u "(Lcom/example/bourse/bourse/sim/InsertionOrder$Link;)Lcom/example/bourse/bourse/sim/InsertionOrder$Link;"), (1, u "iterator"), (0, u "()Ljava/util/Iterator;")] 7

def k4c0 : Code := { maxStack := 1, maxLocals := 1, code := prog_158_method_1_code, exceptionTable := #[], attributes := #[] }
def k4m0 : Method := { name := "<init>", desc := "()V", sig := { parameters := [], returnType := none }, accessFlags := 0, code := some k4c0 }
def k4c1 : Code := { maxStack := 3, maxLocals := 4, code := prog_158_method_2_code, exceptionTable := #[], attributes := #[] }
def k4m1 : Method := { name := "add", desc := "(Lcom/example/bourse/bourse/sim/InsertionOrder$Link;)V", sig := { parameters := [(.object "com/example/bourse/bourse/sim/InsertionOrder$Link")], returnType := none }, accessFlags := 1, code := some k4c1 }
def k4c2 : Code := { maxStack := 3, maxLocals := 4, code := prog_158_method_3_code, exceptionTable := #[], attributes := #[] }
def k4m2 : Method := { name := "remove", desc := "(Lcom/example/bourse/bourse/sim/InsertionOrder$Link;)V", sig := { parameters := [(.object "com/example/bourse/bourse/sim/InsertionOrder$Link")], returnType := none }, accessFlags := 1, code := some k4c2 }
def k4c3 : Code := { maxStack := 1, maxLocals := 1, code := prog_158_method_4_code, exceptionTable := #[], attributes := #[] }
def k4m3 : Method := { name := "size", desc := "()I", sig := { parameters := [], returnType := some .int }, accessFlags := 1, code := some k4c3 }
def k4c4 : Code := { maxStack := 1, maxLocals := 3, code := prog_158_method_5_code, exceptionTable := #[], attributes := #[] }
def k4m4 : Method := { name := "after", desc := "(Lcom/example/bourse/bourse/sim/InsertionOrder$Link;)Lcom/example/bourse/bourse/sim/InsertionOrder$Link;", sig := { parameters := [(.object "com/example/bourse/bourse/sim/InsertionOrder$Link")], returnType := some (.object "com/example/bourse/bourse/sim/InsertionOrder$Link") }, accessFlags := 17, code := some k4c4 }
def k4c5 : Code := { maxStack := 3, maxLocals := 1, code := prog_158_method_6_code, exceptionTable := #[], attributes := #[] }
def k4m5 : Method := { name := "iterator", desc := "()Ljava/util/Iterator;", sig := { parameters := [], returnType := some (.object "java/util/Iterator") }, accessFlags := 1, code := some k4c5 }
/-- com/example/bourse/bourse/sim/InsertionOrder -/
def k4 : Class := { plain "com/example/bourse/bourse/sim/InsertionOrder" (some 0) with
  accessFlags := 32
  interfaces := #[3]
  cf := some (fileOf pool4 8 #[.nestMembers #[14, 29]] #[{ accessFlags := 0, nameIndex := 5, descriptorIndex := 6, attributes := #[] }, { accessFlags := 1, nameIndex := 40, descriptorIndex := 41, attributes := #[] }, { accessFlags := 1, nameIndex := 44, descriptorIndex := 41, attributes := #[] }, { accessFlags := 1, nameIndex := 27, descriptorIndex := 45, attributes := #[] }, { accessFlags := 17, nameIndex := 24, descriptorIndex := 46, attributes := #[] }, { accessFlags := 1, nameIndex := 48, descriptorIndex := 49, attributes := #[] }] 32 2 #[34] #[{ accessFlags := 2, nameIndex := 21, descriptorIndex := 12, attributes := #[] }, { accessFlags := 2, nameIndex := 11, descriptorIndex := 12, attributes := #[] }, { accessFlags := 2, nameIndex := 27, descriptorIndex := 28, attributes := #[] }])
  fields := #[{ name := "first", type := (.object "com/example/bourse/bourse/sim/InsertionOrder$Link"), accessFlags := 2, slot := 0, constantValue := 0 }, { name := "last", type := (.object "com/example/bourse/bourse/sim/InsertionOrder$Link"), accessFlags := 2, slot := 1, constantValue := 0 }, { name := "size", type := .int, accessFlags := 2, slot := 2, constantValue := 0 }]
  methods := #[k4m0, k4m1, k4m2, k4m3, k4m4, k4m5]
  instanceTypes := #[(.object "com/example/bourse/bourse/sim/InsertionOrder$Link"), (.object "com/example/bourse/bourse/sim/InsertionOrder$Link"), .int]
  staticTypes := #[]
  resolved := ((Array.replicate 57 none).setIfInBounds 13 (some (.field 1 0))).setIfInBounds 22 (some (.field 1 1))
  statics := none }

def pool5 : Array CpInfo := pool [(16, .class_ 18), (1, u "java/util/Iterator"), (0, u "hasNext"), (0, u "()Z"), (2, u "next"), (0, u "()Ljava/lang/Object;"), (6, .class_ 32), (0, u "java/lang/Object")] 20

def k5m0 : Method := { name := "hasNext", desc := "()Z", sig := { parameters := [], returnType := some .boolean }, accessFlags := 1025, code := none }
def k5m1 : Method := { name := "next", desc := "()Ljava/lang/Object;", sig := { parameters := [], returnType := some (.object "java/lang/Object") }, accessFlags := 1025, code := none }
/-- java/util/Iterator -/
def k5 : Class := { plain "java/util/Iterator" (some 0) with
  accessFlags := 1537
  interfaces := #[]
  cf := some (fileOf pool5 16 #[] #[{ accessFlags := 1025, nameIndex := 19, descriptorIndex := 20, attributes := #[] }, { accessFlags := 1025, nameIndex := 23, descriptorIndex := 24, attributes := #[] }] 1537 31 #[] #[])
  fields := #[]
  methods := #[k5m0, k5m1]
  instanceTypes := #[]
  staticTypes := #[]
  resolved := Array.replicate 53 none
  statics := none }

def pool6 : Array CpInfo := pool [(1, .fieldref 2 3), (0, .class_ 4), (0, .nameAndType 5 6), (0, u "com/example/bourse/bourse/sim/InsertionOrder$1"), (0, u "this$0"), (0, u "Lcom/example/bourse/bourse/sim/InsertionOrder;"), (0, .methodref 8 9), (0, .class_ 10), (0, .nameAndType 11 12), (0, u "java/lang/Object"), (0, u "<init>"), (0, u "()V"), (0, .fieldref 14 15), (0, .class_ 16), (0, .nameAndType 17 18), (0, u "com/example/bourse/bourse/sim/InsertionOrder"), (0, u "first"), (0, u "Lcom/example/bourse/bourse/sim/InsertionOrder$Link;"), (0, .fieldref 2 20), (0, .nameAndType 21 18), (0, u "next"), (3, .fieldref 2 26), (0, .nameAndType 27 18), (0, u "given"), (0, .methodref 14 29), (0, .nameAndType 30 31), (0, u "after"), (0, u "(Lcom/example/bourse/bourse/sim/InsertionOrder$Link;)Lcom/example/bourse/bourse/sim/InsertionOrder$Link;"), (7, .methodref 2 40), (0, .nameAndType 21 41), (0, u "()Lcom/example/bourse/bourse/sim/InsertionOrder$Link;"), (0, .class_ 43), (0, u "java/util/Iterator"), (2, u "(Lcom/example/bourse/bourse/sim/InsertionOrder;)V"), (3, u "hasNext"), (0, u "()Z"), (2, u "()Ljava/lang/Object;")] 12

def k6c0 : Code := { maxStack := 2, maxLocals := 2, code := prog_159_method_1_code, exceptionTable := #[], attributes := #[] }
def k6m0 : Method := { name := "<init>", desc := "(Lcom/example/bourse/bourse/sim/InsertionOrder;)V", sig := { parameters := [(.object "com/example/bourse/bourse/sim/InsertionOrder")], returnType := none }, accessFlags := 0, code := some k6c0 }
def k6c1 : Code := { maxStack := 1, maxLocals := 1, code := prog_159_method_2_code, exceptionTable := #[], attributes := #[] }
def k6m1 : Method := { name := "hasNext", desc := "()Z", sig := { parameters := [], returnType := some .boolean }, accessFlags := 1, code := some k6c1 }
def k6c2 : Code := { maxStack := 3, maxLocals := 1, code := prog_159_method_3_code, exceptionTable := #[], attributes := #[] }
def k6m2 : Method := { name := "next", desc := "()Lcom/example/bourse/bourse/sim/InsertionOrder$Link;", sig := { parameters := [], returnType := some (.object "com/example/bourse/bourse/sim/InsertionOrder$Link") }, accessFlags := 1, code := some k6c2 }
def k6c3 : Code := { maxStack := 1, maxLocals := 1, code := prog_159_method_5_code, exceptionTable := #[], attributes := #[] }
def k6m3 : Method := { name := "next", desc := "()Ljava/lang/Object;", sig := { parameters := [], returnType := some (.object "java/lang/Object") }, accessFlags := 4161, code := some k6c3 }
/-- com/example/bourse/bourse/sim/InsertionOrder$1 -/
def k6 : Class := { plain "com/example/bourse/bourse/sim/InsertionOrder$1" (some 0) with
  accessFlags := 32
  interfaces := #[5]
  cf := some (fileOf pool6 2 #[.nestHost 14] #[{ accessFlags := 0, nameIndex := 11, descriptorIndex := 46, attributes := #[] }, { accessFlags := 1, nameIndex := 50, descriptorIndex := 51, attributes := #[] }, { accessFlags := 1, nameIndex := 21, descriptorIndex := 41, attributes := #[] }, { accessFlags := 4161, nameIndex := 21, descriptorIndex := 54, attributes := #[] }] 32 8 #[42] #[{ accessFlags := 2, nameIndex := 21, descriptorIndex := 18, attributes := #[] }, { accessFlags := 2, nameIndex := 27, descriptorIndex := 18, attributes := #[] }, { accessFlags := 4112, nameIndex := 5, descriptorIndex := 6, attributes := #[] }])
  fields := #[{ name := "next", type := (.object "com/example/bourse/bourse/sim/InsertionOrder$Link"), accessFlags := 2, slot := 0, constantValue := 0 }, { name := "given", type := (.object "com/example/bourse/bourse/sim/InsertionOrder$Link"), accessFlags := 2, slot := 1, constantValue := 0 }, { name := "this$0", type := (.object "com/example/bourse/bourse/sim/InsertionOrder"), accessFlags := 4112, slot := 2, constantValue := 0 }]
  methods := #[k6m0, k6m1, k6m2, k6m3]
  instanceTypes := #[(.object "com/example/bourse/bourse/sim/InsertionOrder$Link"), (.object "com/example/bourse/bourse/sim/InsertionOrder$Link"), (.object "com/example/bourse/bourse/sim/InsertionOrder")]
  staticTypes := #[]
  resolved := Array.replicate 67 none
  statics := none }

def pool7 : Array CpInfo := pool [(1, u "java/lang/Cloneable"), (0, .class_ 1), (0, u "java/lang/Object"), (0, .class_ 3)] 3

/-- java/lang/Cloneable -/
def k7 : Class := { plain "java/lang/Cloneable" (some 0) with
  accessFlags := 1537
  interfaces := #[]
  cf := some (fileOf pool7 2 #[] #[] 1537 4 #[] #[])
  fields := #[]
  methods := #[]
  instanceTypes := #[]
  staticTypes := #[]
  resolved := Array.replicate 8 none
  statics := none }

def pool8 : Array CpInfo := pool [(1, u "java/io/Serializable"), (0, .class_ 1), (0, u "java/lang/Object"), (0, .class_ 3)] 3

/-- java/io/Serializable -/
def k8 : Class := { plain "java/io/Serializable" (some 0) with
  accessFlags := 1537
  interfaces := #[]
  cf := some (fileOf pool8 2 #[] #[] 1537 4 #[] #[])
  fields := #[]
  methods := #[]
  instanceTypes := #[]
  staticTypes := #[]
  resolved := Array.replicate 8 none
  statics := none }

/-- the primitive byte -/
def k9 : Class := { plain "byte" none with kind := .primitive 'B', accessFlags := 0x411 }
/-- [B -/
def k10 : Class := { plain "[B" (some 0) with kind := .array 9 .byte, interfaces := #[7, 8], accessFlags := 1041 }

/-- the primitive int -/
def k11 : Class := { plain "int" none with kind := .primitive 'I', accessFlags := 0x411 }
/-- [I -/
def k12 : Class := { plain "[I" (some 0) with kind := .array 11 .int, interfaces := #[7, 8], accessFlags := 1041 }

def heap : Heap := #[]
def classes : Array Class := #[k0, k1, k2, k3, k4, k5, k6, k7, k8, k9, k10, k11, k12]
def interned : List (Array UInt16 × Addr) := []
def slotsUsed : Nat := 0
def theMethod : MethodId := ⟨2, 1⟩
def args0 : Array Value := #[.int 5, .int 3]
def aboutOver (below : List Frame) : State where
  vm := { classes := classes, interned := interned.toArray }
  heap := heap
  slotsUsed := slotsUsed
  threads := #[{ frames := .invoking theMethod args0 :: below }]
def below0 : List Frame := [.native { method := ⟨0, 0⟩, args := #[] }]
def about1 : State := aboutOver below0
def p0 : Program := .bare "" "" ""
def e0 : Env := launch0.env 0 0 0
theorem w_frames : about1.frames = Frame.invoking theMethod args0 :: below0 := rfl
set_option maxRecDepth 65536 in
theorem w_args : argsFit about1.vm theMethod args0 = true := by decide +kernel
set_option maxRecDepth 65536 in
theorem w_heap : heapFits about1 = true := by decide +kernel
set_option maxRecDepth 65536 in
theorem w_runnable : about1.curStatus? = some .runnable := by decide +kernel
set_option maxRecDepth 65536 in
theorem w_alone : about1.alone = true := by decide +kernel
set_option maxRecDepth 65536 in
theorem w_named : about1.methodNamed? x = some theMethod := by decide +kernel
set_option maxRecDepth 65536 in
theorem w_hears : about1.hears theMethod below0 = true := by decide +kernel
set_option maxRecDepth 65536 in
theorem w_ripe : about1.ripe theMethod args0 below0 = true := by decide +kernel
theorem w_running : about1.status = .running := rfl
set_option maxRecDepth 65536 in
theorem w_room : about1.hasRoom e0.platform room_1 = true :=
  launch0.hasRoom_least _ room_1 (by decide +kernel) (by decide +kernel) (by decide +kernel) (by decide +kernel) (by decide +kernel) (by decide +kernel)
theorem allAtoms_all (ts : List Jvm.Cond) (a : Array Jvm.Value) (st : Jvm.State) : (allAtoms ts).before a st = ts.all (fun c => c.before a st) := by
  induction ts with
  | nil => rfl
  | cons c t ih =>
    show (Jvm.Cond.and c (allAtoms t)).before a st = _
    rw [Jvm.Cond.before_and, ih, List.all_cons]
def words1 : List Jvm.Cond := Jvm.Cond.code x code maxLocals ret :: tables_1
/-- a 'code' word, met by the world's own term for the bytes: nothing is compared byte by byte -/
theorem code_word {y : MethodName} {bytes : ByteArray} {mx : Nat} {rt : Option FieldType} {a : Array Value} {s : State} {m : MethodId} {meth : Method} {c : Code} (h1 : s.methodNamed? y = some m) (h2 : s.vm.method? m = some meth) (h3 : meth.code = some c) (h4 : c.code = bytes)
    (h5 : (c.maxLocals == mx && c.exceptionTable.isEmpty && decide (c.maxStack ≤ mostOperands) && decide (meth.sig.returnType = rt) && !meth.locks && decide (parseMethodDescriptor y.desc = some meth.sig)) = true) : (Jvm.Cond.code y bytes mx rt).before a s = true := by
  simp only [Bool.and_eq_true, beq_iff_eq, Bool.not_eq_true', decide_eq_true_eq] at h5
  obtain ⟨⟨⟨⟨⟨g1, g2⟩, g3⟩, g4⟩, g5⟩, g6⟩ := h5
  simp [Cond.before, Cond.holds, Cond.value, h1, h2, h3, h4, g1, g2, g3, g4, g5, g6]
def isCode : Jvm.Cond → Bool
  | .code _ _ _ _ => true
  | _ => false
theorem all_split {L : List Jvm.Cond} {P : Jvm.Cond → Bool} (h1 : L.all (fun c => isCode c || P c) = true) (h2 : ∀ c ∈ L.filter isCode, P c = true) : L.all P = true := by
  refine List.all_eq_true.mpr fun c hc => ?_
  have h := List.all_eq_true.mp h1 c hc
  rcases Bool.eq_false_or_eq_true (isCode c) with hi | hi
  · exact h2 c (List.mem_filter.mpr ⟨hc, hi⟩)
  · simpa [hi] using h
set_option maxRecDepth 65536 in
theorem w_c0 : (Jvm.Cond.code x code maxLocals ret).before args0 about1 = true := code_word (m := ⟨2, 1⟩) (meth := k2m1) (c := k2c1) (by decide +kernel) rfl rfl rfl (by decide +kernel)
set_option maxRecDepth 65536 in
theorem w_c1 : (Jvm.Cond.code ({ cls := "com/example/bourse/bourse/sim/InsertionOrderAddPinLaw", name := "<init>", desc := "()V" } : Jvm.MethodName) method_1_code (1 : Nat) (Option.none : Option Jvm.ClassFile.FieldType)).before args0 about1 = true := code_word (m := ⟨2, 0⟩) (meth := k2m0) (c := k2c0) (by decide +kernel) rfl rfl rfl (by decide +kernel)
set_option maxRecDepth 65536 in
theorem w_c2 : (Jvm.Cond.code ({ cls := "com/example/bourse/bourse/sim/InsertionOrder$Link", name := "<init>", desc := "()V" } : Jvm.MethodName) prog_160_method_1_code (1 : Nat) (Option.none : Option Jvm.ClassFile.FieldType)).before args0 about1 = true := code_word (m := ⟨1, 0⟩) (meth := k1m0) (c := k1c0) (by decide +kernel) rfl rfl rfl (by decide +kernel)
set_option maxRecDepth 65536 in
theorem w_c3 : (Jvm.Cond.code ({ cls := "java/lang/Object", name := "<init>", desc := "()V" } : Jvm.MethodName) object_method_1_code (1 : Nat) (Option.none : Option Jvm.ClassFile.FieldType)).before args0 about1 = true := code_word (m := ⟨0, 0⟩) (meth := k0m0) (c := k0c0) (by decide +kernel) rfl rfl rfl (by decide +kernel)
set_option maxRecDepth 65536 in
theorem w_c4 : (Jvm.Cond.code ({ cls := "com/example/bourse/bourse/sim/InsertionOrder", name := "<init>", desc := "()V" } : Jvm.MethodName) prog_158_method_1_code (1 : Nat) (Option.none : Option Jvm.ClassFile.FieldType)).before args0 about1 = true := code_word (m := ⟨4, 0⟩) (meth := k4m0) (c := k4c0) (by decide +kernel) rfl rfl rfl (by decide +kernel)
set_option maxRecDepth 65536 in
theorem w_c5 : (Jvm.Cond.code ({ cls := "com/example/bourse/bourse/sim/InsertionOrder", name := "add", desc := "(Lcom/example/bourse/bourse/sim/InsertionOrder$Link;)V" } : Jvm.MethodName) prog_158_method_2_code (4 : Nat) (Option.none : Option Jvm.ClassFile.FieldType)).before args0 about1 = true := code_word (m := ⟨4, 1⟩) (meth := k4m1) (c := k4c1) (by decide +kernel) rfl rfl rfl (by decide +kernel)
set_option maxRecDepth 65536 in
theorem w_c6 : (Jvm.Cond.code ({ cls := "com/example/bourse/bourse/sim/InsertionOrder", name := "size", desc := "()I" } : Jvm.MethodName) prog_158_method_4_code (1 : Nat) (Option.some Jvm.ClassFile.FieldType.int)).before args0 about1 = true := code_word (m := ⟨4, 3⟩) (meth := k4m3) (c := k4c3) (by decide +kernel) rfl rfl rfl (by decide +kernel)
set_option maxRecDepth 65536 in
theorem w_c7 : (Jvm.Cond.code ({ cls := "com/example/bourse/bourse/sim/InsertionOrder", name := "after", desc := "(Lcom/example/bourse/bourse/sim/InsertionOrder$Link;)Lcom/example/bourse/bourse/sim/InsertionOrder$Link;" } : Jvm.MethodName) prog_158_method_5_code (3 : Nat) (Option.some (Jvm.ClassFile.FieldType.object "com/example/bourse/bourse/sim/InsertionOrder$Link"))).before args0 about1 = true := code_word (m := ⟨4, 4⟩) (meth := k4m4) (c := k4c4) (by decide +kernel) rfl rfl rfl (by decide +kernel)
set_option maxRecDepth 65536 in
theorem w_c8 : (Jvm.Cond.code ({ cls := "com/example/bourse/bourse/sim/InsertionOrder", name := "iterator", desc := "()Ljava/util/Iterator;" } : Jvm.MethodName) prog_158_method_6_code (1 : Nat) (Option.some (Jvm.ClassFile.FieldType.object "java/util/Iterator"))).before args0 about1 = true := code_word (m := ⟨4, 5⟩) (meth := k4m5) (c := k4c5) (by decide +kernel) rfl rfl rfl (by decide +kernel)
set_option maxRecDepth 65536 in
theorem w_c9 : (Jvm.Cond.code ({ cls := "com/example/bourse/bourse/sim/InsertionOrder$1", name := "<init>", desc := "(Lcom/example/bourse/bourse/sim/InsertionOrder;)V" } : Jvm.MethodName) prog_159_method_1_code (2 : Nat) (Option.none : Option Jvm.ClassFile.FieldType)).before args0 about1 = true := code_word (m := ⟨6, 0⟩) (meth := k6m0) (c := k6c0) (by decide +kernel) rfl rfl rfl (by decide +kernel)
set_option maxRecDepth 65536 in
theorem w_c10 : (Jvm.Cond.code ({ cls := "com/example/bourse/bourse/sim/InsertionOrder$1", name := "next", desc := "()Ljava/lang/Object;" } : Jvm.MethodName) prog_159_method_5_code (1 : Nat) (Option.some (Jvm.ClassFile.FieldType.object "java/lang/Object"))).before args0 about1 = true := code_word (m := ⟨6, 3⟩) (meth := k6m3) (c := k6c3) (by decide +kernel) rfl rfl rfl (by decide +kernel)
set_option maxRecDepth 65536 in
theorem w_c11 : (Jvm.Cond.code ({ cls := "com/example/bourse/bourse/sim/InsertionOrder$1", name := "next", desc := "()Lcom/example/bourse/bourse/sim/InsertionOrder$Link;" } : Jvm.MethodName) prog_159_method_3_code (1 : Nat) (Option.some (Jvm.ClassFile.FieldType.object "com/example/bourse/bourse/sim/InsertionOrder$Link"))).before args0 about1 = true := code_word (m := ⟨6, 2⟩) (meth := k6m2) (c := k6c2) (by decide +kernel) rfl rfl rfl (by decide +kernel)
set_option maxRecDepth 65536 in
theorem w_c12 : (Jvm.Cond.code ({ cls := "com/example/bourse/bourse/sim/InsertionOrder", name := "remove", desc := "(Lcom/example/bourse/bourse/sim/InsertionOrder$Link;)V" } : Jvm.MethodName) prog_158_method_3_code (4 : Nat) (Option.none : Option Jvm.ClassFile.FieldType)).before args0 about1 = true := code_word (m := ⟨4, 2⟩) (meth := k4m2) (c := k4c2) (by decide +kernel) rfl rfl rfl (by decide +kernel)
set_option maxRecDepth 65536 in
theorem w_c13 : (Jvm.Cond.code ({ cls := "com/example/bourse/bourse/sim/InsertionOrder$1", name := "hasNext", desc := "()Z" } : Jvm.MethodName) prog_159_method_2_code (1 : Nat) (Option.some Jvm.ClassFile.FieldType.boolean)).before args0 about1 = true := code_word (m := ⟨6, 1⟩) (meth := k6m1) (c := k6c1) (by decide +kernel) rfl rfl rfl (by decide +kernel)
def codes1 : List Jvm.Cond := [Jvm.Cond.code x code maxLocals ret, Jvm.Cond.code ({ cls := "com/example/bourse/bourse/sim/InsertionOrderAddPinLaw", name := "<init>", desc := "()V" } : Jvm.MethodName) method_1_code (1 : Nat) (Option.none : Option Jvm.ClassFile.FieldType), Jvm.Cond.code ({ cls := "com/example/bourse/bourse/sim/InsertionOrder$Link", name := "<init>", desc := "()V" } : Jvm.MethodName) prog_160_method_1_code (1 : Nat) (Option.none : Option Jvm.ClassFile.FieldType), Jvm.Cond.code ({ cls := "java/lang/Object", name := "<init>", desc := "()V" } : Jvm.MethodName) object_method_1_code (1 : Nat) (Option.none : Option Jvm.ClassFile.FieldType), Jvm.Cond.code ({ cls := "com/example/bourse/bourse/sim/InsertionOrder", name := "<init>", desc := "()V" } : Jvm.MethodName) prog_158_method_1_code (1 : Nat) (Option.none : Option Jvm.ClassFile.FieldType), Jvm.Cond.code ({ cls := "com/example/bourse/bourse/sim/InsertionOrder", name := "add", desc := "(Lcom/example/bourse/bourse/sim/InsertionOrder$Link;)V" } : Jvm.MethodName) prog_158_method_2_code (4 : Nat) (Option.none : Option Jvm.ClassFile.FieldType), Jvm.Cond.code ({ cls := "com/example/bourse/bourse/sim/InsertionOrder", name := "size", desc := "()I" } : Jvm.MethodName) prog_158_method_4_code (1 : Nat) (Option.some Jvm.ClassFile.FieldType.int), Jvm.Cond.code ({ cls := "com/example/bourse/bourse/sim/InsertionOrder", name := "after", desc := "(Lcom/example/bourse/bourse/sim/InsertionOrder$Link;)Lcom/example/bourse/bourse/sim/InsertionOrder$Link;" } : Jvm.MethodName) prog_158_method_5_code (3 : Nat) (Option.some (Jvm.ClassFile.FieldType.object "com/example/bourse/bourse/sim/InsertionOrder$Link")), Jvm.Cond.code ({ cls := "com/example/bourse/bourse/sim/InsertionOrder", name := "iterator", desc := "()Ljava/util/Iterator;" } : Jvm.MethodName) prog_158_method_6_code (1 : Nat) (Option.some (Jvm.ClassFile.FieldType.object "java/util/Iterator")), Jvm.Cond.code ({ cls := "com/example/bourse/bourse/sim/InsertionOrder$1", name := "<init>", desc := "(Lcom/example/bourse/bourse/sim/InsertionOrder;)V" } : Jvm.MethodName) prog_159_method_1_code (2 : Nat) (Option.none : Option Jvm.ClassFile.FieldType), Jvm.Cond.code ({ cls := "com/example/bourse/bourse/sim/InsertionOrder$1", name := "next", desc := "()Ljava/lang/Object;" } : Jvm.MethodName) prog_159_method_5_code (1 : Nat) (Option.some (Jvm.ClassFile.FieldType.object "java/lang/Object")), Jvm.Cond.code ({ cls := "com/example/bourse/bourse/sim/InsertionOrder$1", name := "next", desc := "()Lcom/example/bourse/bourse/sim/InsertionOrder$Link;" } : Jvm.MethodName) prog_159_method_3_code (1 : Nat) (Option.some (Jvm.ClassFile.FieldType.object "com/example/bourse/bourse/sim/InsertionOrder$Link")), Jvm.Cond.code ({ cls := "com/example/bourse/bourse/sim/InsertionOrder", name := "remove", desc := "(Lcom/example/bourse/bourse/sim/InsertionOrder$Link;)V" } : Jvm.MethodName) prog_158_method_3_code (4 : Nat) (Option.none : Option Jvm.ClassFile.FieldType), Jvm.Cond.code ({ cls := "com/example/bourse/bourse/sim/InsertionOrder$1", name := "hasNext", desc := "()Z" } : Jvm.MethodName) prog_159_method_2_code (1 : Nat) (Option.some Jvm.ClassFile.FieldType.boolean)]
set_option maxRecDepth 65536 in
theorem codes_eq : words1.filter isCode = codes1 := rfl
theorem w_codes : ∀ c ∈ words1.filter isCode, c.before args0 about1 = true := by
  rw [codes_eq]
  intro c hc
  simp only [codes1, List.mem_cons, List.not_mem_nil, or_false] at hc
  rcases hc with rfl | rfl | rfl | rfl | rfl | rfl | rfl | rfl | rfl | rfl | rfl | rfl | rfl | rfl
  · exact w_c0
  · exact w_c1
  · exact w_c2
  · exact w_c3
  · exact w_c4
  · exact w_c5
  · exact w_c6
  · exact w_c7
  · exact w_c8
  · exact w_c9
  · exact w_c10
  · exact w_c11
  · exact w_c12
  · exact w_c13
set_option maxRecDepth 65536 in
theorem w_t1 : (words1.take 24).all (fun c => isCode c || c.before args0 about1) = true := by decide +kernel
set_option maxRecDepth 65536 in
theorem w_t2 : ((words1.drop 24).take 24).all (fun c => isCode c || c.before args0 about1) = true := by decide +kernel
set_option maxRecDepth 65536 in
theorem w_t3 : (((words1.drop 24).drop 24).take 24).all (fun c => isCode c || c.before args0 about1) = true := by decide +kernel
set_option maxRecDepth 65536 in
theorem w_t4 : (((words1.drop 24).drop 24).drop 24).all (fun c => isCode c || c.before args0 about1) = true := by decide +kernel
theorem w_tables : (allAtoms (Jvm.Cond.code x code maxLocals ret :: tables_1)).before args0 about1 = true := by
  rw [allAtoms_all]
  show words1.all (fun c => c.before args0 about1) = true
  refine all_split ?_ w_codes
  rw [← List.take_append_drop 24 words1, List.all_append, w_t1, ← List.take_append_drop 24 (words1.drop 24), List.all_append, w_t2, ← List.take_append_drop 24 ((words1.drop 24).drop 24), List.all_append, w_t3, w_t4]
  rfl
set_option maxRecDepth 65536 in
theorem w_case : (Jvm.Cond.and given_1 narrow_1).before args0 about1 = true := by decide +kernel
theorem w_applies : (headSpec (Jvm.Cond.code x code maxLocals ret :: tables_1) room_1).applies x e0.platform about1 = true :=
  (Spec.applies_iff w_frames).mpr ⟨w_running, w_runnable, w_alone, w_named, w_hears, w_ripe, w_room, w_tables⟩
theorem atStart : AtStart classFile x code maxLocals ret World_1 tables_1 room_1 Calls_1 rest_1 Pre_1 launch0 p0 e0 about1 theMethod args0 below0 :=
  ⟨lists_1, trivial, launch0.admits_env _ _ _, launch0.least_env, fairChoices_fair.cas, fairChoices_fair.clock, w_frames, w_args, w_heap, w_applies, trivial, trivial, w_case⟩
end start1
theorem witness_1 : WitnessClaimed_1 := ⟨start1.p0, start1.e0, start1.about1, start1.theMethod, start1.args0, start1.below0, start1.atStart⟩
end Jvm.Pilot.@@N@@
