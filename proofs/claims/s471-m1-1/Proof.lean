import JvmDerived
import JvmDerived.Pilot.@@N@@Statement
import JvmDerived.Pilot.@@N@@Code
set_option linter.unusedVariables false
set_option linter.unusedSimpArgs false
namespace Jvm.RoadKit
open Sem ClassFile Op Lib Jvm.Stand Jvm.Free Jvm.LawKit
section New
variable {p : Program} {l : Launch} {e : Env} {R : Room} {s : State} {m : MethodId} {args : Array Value} {below : List Frame} {meth : Method} {c : Code} {T : State} {locs : List Loc} {cells slots : Nat}
theorem retI (X : Stand p l e R s m args below meth c T locs cells slots) (hx : p.tables.exec = Jvm.exec) {pc : Nat} {Ls : Array Slot} {z : Int32} {rest : List Value} (hret : meth.sig.returnType = some .int) (hd : decode c.code pc = .ok (.ireturn, 1)) {fs : List Frame}
    (hl : ∀ (f : JFrame) (acts : List Action), f.method = m → f.locked = none → f.entered = [] → (doReturn e (T.setTop f) acts (some (.int z))).1 = T.setFrames fs) : Steps p.tables e below (T.setTop (mkF m pc Ls (.int z :: rest))) (T.setFrames fs) := by
  have hm' : T.vm.method? m = some meth := X.method'
  have hn : narrow .int (.int z) = .int z := rfl
  show Steps p.tables e below (T.setTop { method := m, pc := pc, locals := Ls, stack := _ :: rest, locked := none }) _
  jvm_step X.here [X.here.top, hx, hd, hm', hret, hn]
  first | (intro acts; rw [hl _ acts rfl rfl rfl]) | rw [hl _ _ rfl rfl rfl]
  exact Steps.refl _
end New
end Jvm.RoadKit
namespace Jvm.Pilot.@@N@@
open Jvm Jvm.ClassFile Sem Op Lib Jvm.Free Jvm.Stand Jvm.LawKit Jvm.RoadKit Bundle Jvm.Pilot.@@N@@.Jvm.D
section Own
variable {p : Program} {l : Launch} {e : Env} {R : Room} {s : State} {m : MethodId} {args : Array Value} {below : List Frame} {meth : Method} {c : Code} {T : State} {locs : List Loc} {cells slots : Nat} {Z : State} {a0 : Array Value} {h h' h0 : Heap} {a b : Addr} {C nm dd : String} {v w : Value} {sl n0 : Nat} {ws ws' : List (Addr × Nat)} {ty : FieldType} {k : ClassId} {z j : Int32} {vs : List Value} {dv : Value}
/-- the cells of h stand in h' as they stood, but for the places in ws -/
def KL (h h' : Heap) (ws : List (Addr × Nat)) : Prop := h.size ≤ h'.size ∧ ∀ (x : Addr) (c : Cell), h[x]? = some c → ∃ c' : Cell, h'[x]? = some c' ∧ c'.cls = c.cls ∧ c'.vm = c.vm ∧ c'.slots.size = c.slots.size ∧ (∀ i, (x, i) ∉ ws → c'.slots[i]? = c.slots[i]?) ∧ ((∀ w ∈ ws, w.1 ≠ x) → c' = c)
theorem KL.refl (h : Heap) (ws : List (Addr × Nat)) : KL h h ws := ⟨Nat.le_refl _, fun x c q => ⟨c, q, rfl, rfl, rfl, fun _ _ => rfl, fun _ => rfl⟩⟩
theorem KL.trans (K : KL h0 h ws) (K' : KL h h' ws') (q : ∀ w ∈ ws', w ∈ ws ∨ h0.size ≤ w.1) : KL h0 h' ws := by
  refine ⟨Nat.le_trans K.1 K'.1, fun x c hx => ?_⟩
  obtain ⟨c1, a1, a2, a3, a4, a5, a6⟩ := K.2 x c hx
  obtain ⟨c2, b1, b2, b3, b4, b5, b6⟩ := K'.2 x c1 a1
  have hlt : x < h0.size := (Array.getElem?_eq_some_iff.mp hx).1
  refine ⟨c2, b1, b2.trans a2, b3.trans a3, b4.trans a4, fun i hi => ?_, fun hn => ?_⟩
  · rw [b5 i fun hm => ?_]
    · exact a5 i hi
    · rcases q _ hm with u | u
      · exact hi u
      · exact absurd hlt (Nat.not_lt.mpr u)
  · rw [b6 fun w hw e => ?_]
    · exact a6 hn
    · rcases q w hw with u | u
      · exact hn w u e
      · subst e; exact absurd hlt (Nat.not_lt.mpr u)
theorem KL.ofE (E : Ext h h') : KL h h' [] := ⟨E.1, fun x c q => ⟨c, E.2 x c q, rfl, rfl, rfl, fun _ _ => rfl, fun _ => rfl⟩⟩
theorem KL.ofW (W : Wr h h' a sl v) : KL h h' [(a, sl)] := by
  refine ⟨Nat.le_of_eq W.size.symm, fun x c q => ?_⟩
  obtain ⟨c', e1, e2, e3, e4, e5, e6, -⟩ := wr_at W q
  refine ⟨c', e1, e2, e3, e4, fun i hi => ?_, fun hn => e5 fun e => hn _ (List.mem_singleton.mpr rfl) e.symm⟩
  by_cases ex : x = a
  · subst ex; exact e6 i fun ei => hi (by rw [ei]; exact List.mem_singleton.mpr rfl)
  · rw [e5 ex]
theorem nw0 {x : Addr × Nat} : x ∉ ([] : List (Addr × Nat)) := fun q => nomatch q
theorem nwS {i i' : Nat} {L : List (Addr × Nat)} (q : a ≠ b ∨ i ≠ i') (r : (a, i) ∉ L) : (a, i) ∉ (b, i') :: L := fun y => by
  rcases List.mem_cons.mp y with u | u
  · obtain ⟨u1, u2⟩ := Prod.mk.inj u; exact q.elim (fun f => f u1) (fun f => f u2)
  · exact r u
theorem na0 {P : Addr × Nat → Prop} : ∀ w ∈ ([] : List (Addr × Nat)), P w := fun _ q => nomatch q
theorem naS {P : Addr × Nat → Prop} {x : Addr × Nat} {L : List (Addr × Nat)} (q : P x) (r : ∀ w ∈ L, P w) : ∀ w ∈ x :: L, P w := fun w y => by
  rcases List.mem_cons.mp y with u | u
  · exact u ▸ q
  · exact r w u
theorem kFld (K : KL h h' ws) (F : Fld Z h a C nm dd v) (q : (a, Jvm.RoadKit.slotOf Z C nm dd) ∉ ws) : Fld Z h' a C nm dd v := by
  obtain ⟨cell, cf, k, i, f, h1, h2, h3, h4, h5, h6, h7⟩ := F
  obtain ⟨c', e1, e2, e3, -, e5, -⟩ := K.2 a cell h1
  refine ⟨c', cf, k, i, f, e1, h2, h3, by rw [e3]; exact h4, by rw [e3]; exact h5, by rw [e2]; exact h6, ?_⟩
  rw [e5 f.slot (by simpa [Jvm.RoadKit.slotOf, h2] using q)]; exact h7
theorem kExa (K : KL h h' ws) (F : Exa Z h a C) : Exa Z h' a C := by
  obtain ⟨cell, k, h1, h2, h3, h4, h5⟩ := F
  obtain ⟨c', e1, e2, e3, e4, -⟩ := K.2 a cell h1
  exact ⟨c', k, e1, by rw [e2]; exact h2, by rw [e2]; exact h3, by rw [e3]; exact h4, by rw [e4]; exact h5⟩
theorem kArv (K : KL h h' ws) (F : Arv Z h a k ty z vs dv) (q : ∀ w ∈ ws, w.1 ≠ a) : Arv Z h' a k ty z vs dv := by
  obtain ⟨c, A, r⟩ := F
  obtain ⟨c', e1, -, -, -, -, e6⟩ := K.2 a c A.1
  exact ⟨c, ⟨(e6 q) ▸ e1, A.2⟩, r⟩
theorem kOld (K : KL h h' ws) (O : Old Z n0 h) (q : ∀ w ∈ ws, n0 ≤ w.1) : Old Z n0 h' := by
  refine ⟨O.1, Nat.le_trans O.2.1 K.1, fun x c hx => ?_⟩
  obtain ⟨c', e1, -, -, -, -, e6⟩ := K.2 x c (O.2.2 x c hx)
  have hlt : x < n0 := O.1 ▸ (Array.getElem?_eq_some_iff.mp hx).1
  rw [← e6 fun w hw e => absurd hlt (Nat.not_lt.mpr (e ▸ q w hw))]; exact e1
theorem lt_ne (q : a < h.size) (r : h.size ≤ b) : a ≠ b := Nat.ne_of_lt (Nat.lt_of_lt_of_le q r)
theorem own_wr {g : JFrame} {rest : List Value} {W : Nat} (q : g.monitorRoom = 0) (r : (rest.map fun v => v.category).sum = W) : 2 * g.monitorRoom + (rest.map fun v => v.category).sum ≤ W := by rw [q, r]; omega
theorem naO {x : Addr × Nat} {L : List (Addr × Nat)} (q : x ∈ ws ∨ sl ≤ x.1) (r : ∀ w ∈ L, w ∈ ws ∨ sl ≤ w.1) : ∀ w ∈ x :: L, w ∈ ws ∨ sl ≤ w.1 := naS (P := fun w => w ∈ ws ∨ sl ≤ w.1) q r
theorem naN {x : Addr × Nat} {L : List (Addr × Nat)} (q : x.1 ≠ a) (r : ∀ w ∈ L, w.1 ≠ a) : ∀ w ∈ x :: L, w.1 ≠ a := naS (P := fun w => w.1 ≠ a) q r
theorem own_mi {x : Addr × Nat} (i : Nat) (q : ws[i]? = some x) : x ∈ ws ∨ sl ≤ x.1 := Or.inl (List.mem_of_getElem? q)
theorem naM {Q : Addr × Nat → Prop} {L : List (Addr × Nat)} (n : Nat) (e : (L.take n).map Prod.fst = List.replicate n b) (q : ∀ i, Q (b, i)) (r : ∀ w ∈ L.drop n, Q w) : ∀ w ∈ L, Q w := fun w hw => by
  rw [← List.take_append_drop n L] at hw
  rcases List.mem_append.mp hw with u | u
  · have h1 := List.mem_map_of_mem (f := Prod.fst) u
    rw [e] at h1
    have h2 := List.eq_of_mem_replicate h1
    obtain ⟨x, i⟩ := w
    have h3 : x = b := h2
    rw [h3]; exact q i
  · exact r w u
theorem naNM {L : List (Addr × Nat)} (n : Nat) (e : (L.take n).map Prod.fst = List.replicate n b) (q : b ≠ a) (r : ∀ w ∈ L.drop n, w.1 ≠ a) : ∀ w ∈ L, w.1 ≠ a := naM (Q := fun w => w.1 ≠ a) n e (fun _ => q) r
theorem naOM {L : List (Addr × Nat)} (n : Nat) (e : (L.take n).map Prod.fst = List.replicate n b) (q : sl ≤ b) (r : ∀ w ∈ L.drop n, w ∈ ws ∨ sl ≤ w.1) : ∀ w ∈ L, w ∈ ws ∨ sl ≤ w.1 := naM (Q := fun w => w ∈ ws ∨ sl ≤ w.1) n e (fun _ => Or.inr q) r
theorem naGM {L : List (Addr × Nat)} (n : Nat) (e : (L.take n).map Prod.fst = List.replicate n b) (q : sl ≤ b) (r : ∀ w ∈ L.drop n, sl ≤ w.1) : ∀ w ∈ L, sl ≤ w.1 := naM (Q := fun w => sl ≤ w.1) n e (fun _ => q) r
theorem nwM {i : Nat} {L : List (Addr × Nat)} (n : Nat) (e : (L.take n).map Prod.fst = List.replicate n b) (q : a ≠ b) (r : (a, i) ∉ L.drop n) : (a, i) ∉ L := fun y => naM (Q := fun w => w ≠ (a, i)) n e (fun _ z => q (Prod.mk.inj z).1.symm) (fun w hw z => r (z ▸ hw)) _ y rfl
theorem nfS {y : MethodName} (hZ : Z.Warmed39 s.vm) (w : (Cond.selects C y y).before a0 Z = true) : NotFace s y := notFace_of_selects (args := #[]) (mvT hZ w)
theorem own_static (X : Stand p l e R s m args below meth c T locs cells slots) (hx : p.tables.exec = Jvm.exec) (hZ : Z.Warmed39 s.vm) {own : String} {index : Nat} {y : MethodName} {bytes : ByteArray} {maxL : Nat} {ret : Option FieldType} {rm : Room} {Q : Option Value → Heap → List Loc → Prop} {as' : Array Value}
    (hown : s.vm.findClass own = some m.cls) (w1 : (Cond.methodLink own index y).before a0 Z = true) (w2 : (Cond.static y).before a0 Z = true) (w3 : (Cond.initialized y.cls).before a0 Z = true) (w4 : (Cond.code y bytes maxL ret).before a0 Z = true) (hy : y.cls ≠ "java/lang/invoke/MethodHandle" ∧ y.cls ≠ "java/lang/invoke/VarHandle")
    (hM : MetFree l y (head1 [Cond.code y bytes maxL ret] rm) (fun a U => a = as' ∧ Z.Warmed39 U.vm ∧ U.heap = h) (fun _ _ _ _ _ => True) (fun _ U o U' => ∃ v L, o = .returned v ∧ Q v U'.heap L ∧ FrameEnd U o U' L rm.cells rm.slots))
    (eT : T.heap = h) {W : Nat} (hR : rm.frames + 1 ≤ R.frames ∧ W + (maxL + 11) + rm.locals ≤ R.locals ∧ cells + rm.cells ≤ R.cells ∧ slots + rm.slots ≤ R.slots)
    {g : JFrame} (hg : g.method = m) (hsize : g.locals.size = c.maxLocals) {argsL rest : List Value} (hlen : ∀ sig, parseMethodDescriptor y.desc = some sig → argsL.length = sig.parameters.length) (hstack : g.stack = argsL.reverse ++ rest) (has : argsL.toArray = as') (hW : 2 * g.monitorRoom + (rest.map fun v => v.category).sum ≤ W) (hd : decode c.code g.pc = .ok (.invokestatic index, 3)) :
    ∃ (v : Option Value) (T' : State) (L : List Loc), Stand p l e R s m args below meth c T' (locs ++ L) (cells + rm.cells) (slots + rm.slots) ∧ Q v T'.heap L ∧ ∀ target, Steps p.tables e below (T'.setTop { g with pc := g.pc + 3, stack := v.toList ++ rest }) target → Steps p.tables e below (T.setTop g) target := by
  obtain ⟨v, _, ⟨T', L', k', n'⟩, -, X', ⟨L, hQ, l1, l2, l3⟩, st⟩ := Jvm.LawKit.callS X hx (y := y) hown (mvT hZ w1) (mvT hZ w2) (mvT hZ w3) (mvT hZ w4) hy (backOf (W := W) hM hZ w4 w3 hR.1 hR.2.1) (g := g) hg hsize (argsL := argsL) (rest := rest) hlen hstack hW hd (fun _ _ => ⟨has, eT, hR.2.2.1, hR.2.2.2⟩)
  dsimp only [Pt.U, Pt.locs, Pt.cells, Pt.slots] at X' l1 l2 l3 st hQ
  subst l1 l2 l3
  exact ⟨v, T', L, X', hQ, st⟩
theorem own_init (X : Stand p l e R s m args below meth c T locs cells slots) (hx : p.tables.exec = Jvm.exec) (hZ : Z.Warmed39 s.vm) {own : String} {index : Nat} {y : MethodName} {bytes : ByteArray} {maxL : Nat} {rm : Room} {Q : Option Value → Heap → List Loc → Prop} {as' : Array Value} (hy1 : y.name = "<init>")
    (hown : s.vm.findClass own = some m.cls) (w1 : (Cond.methodLink own index y).before a0 Z = true) (w2 : (Cond.instanceMethod y).before a0 Z = true) (w3 : (Cond.initialized y.cls).before a0 Z = true) (w4 : (Cond.code y bytes maxL none).before a0 Z = true) (hy : y.cls ≠ "java/lang/invoke/MethodHandle" ∧ y.cls ≠ "java/lang/invoke/VarHandle")
    (hM : MetFree l y (head1 [Cond.code y bytes maxL none] rm) (fun a U => a = as' ∧ Z.Warmed39 U.vm ∧ U.heap = h) (fun _ _ _ _ _ => True) (fun _ U o U' => ∃ v L, o = .returned v ∧ Q v U'.heap L ∧ FrameEnd U o U' L rm.cells rm.slots))
    (eT : T.heap = h) {W : Nat} (hR : rm.frames + 1 ≤ R.frames ∧ W + (maxL + 11) + rm.locals ≤ R.locals ∧ cells + rm.cells ≤ R.cells ∧ slots + rm.slots ≤ R.slots)
    {g : JFrame} (hg : g.method = m) (hsize : g.locals.size = c.maxLocals) {argsL rest : List Value} (hlen : ∀ sig, parseMethodDescriptor y.desc = some sig → argsL.length = sig.parameters.length) (hstack : g.stack = argsL.reverse ++ .ref a :: rest) (has : (.ref a :: argsL).toArray = as') (hW : 2 * g.monitorRoom + (rest.map fun v => v.category).sum ≤ W) (hd : decode c.code g.pc = .ok (.invokespecial index, 3)) :
    ∃ (v : Option Value) (T' : State) (L : List Loc), Stand p l e R s m args below meth c T' (locs ++ L) (cells + rm.cells) (slots + rm.slots) ∧ Q v T'.heap L ∧ ∀ target, Steps p.tables e below (T'.setTop { g with pc := g.pc + 3, stack := v.toList ++ rest }) target → Steps p.tables e below (T.setTop g) target := by
  obtain ⟨v, _, ⟨T', L', k', n'⟩, -, X', ⟨L, hQ, l1, l2, l3⟩, st⟩ := X.specialBack hx (y := y) hy1 hown (mvT hZ w1) (mvT hZ w2) (mvT hZ w4) hy (backOf (W := W) hM hZ w4 w3 hR.1 hR.2.1) (g := g) hg hsize (Steps.refl _) (a := a) (argsL := argsL) (rest := rest) hlen hstack hW hd (fun _ _ => ⟨has, eT, hR.2.2.1, hR.2.2.2⟩)
  dsimp only [Pt.U, Pt.locs, Pt.cells, Pt.slots] at X' l1 l2 l3 st hQ
  subst l1 l2 l3
  exact ⟨v, T', L, X', hQ, fun _ t => st.trans t⟩
theorem own_virtual (X : Stand p l e R s m args below meth c T locs cells slots) (hx : p.tables.exec = Jvm.exec) (hZ : Z.Warmed39 s.vm) {own : String} {index : Nat} {y z : MethodName} {bytes : ByteArray} {maxL : Nat} {ret : Option FieldType} {rm : Room} {Q : Option Value → Heap → List Loc → Prop} {as' : Array Value}
    (hown : s.vm.findClass own = some m.cls) (w1 : (Cond.methodLink own index y).before a0 Z = true) (w2 : (Cond.declares y).before a0 Z = true) (hnf : NotFace s y) (w5 : (Cond.selects C y z).before a0 Z = true) (w6 : (Cond.instanceMethod z).before a0 Z = true) (w3 : (Cond.initialized z.cls).before a0 Z = true) (w4 : (Cond.code z bytes maxL ret).before a0 Z = true) (hy : y.cls ≠ "java/lang/invoke/MethodHandle" ∧ y.cls ≠ "java/lang/invoke/VarHandle")
    (hM : MetFree l z (head1 [Cond.code z bytes maxL ret] rm) (fun a U => a = as' ∧ Z.Warmed39 U.vm ∧ U.heap = h) (fun _ _ _ _ _ => True) (fun _ U o U' => ∃ v L, o = .returned v ∧ Q v U'.heap L ∧ FrameEnd U o U' L rm.cells rm.slots))
    (eT : T.heap = h) (E : Exa Z h a C) {W : Nat} (hR : rm.frames + 1 ≤ R.frames ∧ W + (maxL + 11) + rm.locals ≤ R.locals ∧ cells + rm.cells ≤ R.cells ∧ slots + rm.slots ≤ R.slots)
    {g : JFrame} (hg : g.method = m) (hsize : g.locals.size = c.maxLocals) {argsL rest : List Value} (hlen : ∀ sig, parseMethodDescriptor y.desc = some sig → argsL.length = sig.parameters.length) (hstack : g.stack = argsL.reverse ++ .ref a :: rest) (has : (.ref a :: argsL).toArray = as') (hW : 2 * g.monitorRoom + (rest.map fun v => v.category).sum ≤ W) (hd : decode c.code g.pc = .ok (.invokevirtual index, 3)) :
    ∃ (v : Option Value) (T' : State) (L : List Loc), Stand p l e R s m args below meth c T' (locs ++ L) (cells + rm.cells) (slots + rm.slots) ∧ Q v T'.heap L ∧ ∀ target, Steps p.tables e below (T'.setTop { g with pc := g.pc + 3, stack := v.toList ++ rest }) target → Steps p.tables e below (T.setTop g) target := by
  obtain ⟨cq, kq, qa, qb, qc⟩ := isOf hZ eT E
  obtain ⟨v, _, ⟨T', L', k', n'⟩, -, X', ⟨L, hQ, l1, l2, l3⟩, st⟩ := X.virtualBack hx (y := y) (z := z) hown (mvT hZ w1) (mvT hZ w2) hnf (mvT hZ w5) (mvT hZ w6) hy (backOf (W := W) hM hZ w4 w3 hR.1 hR.2.1) qa qc (g := g) hg hsize (Steps.refl _) (argsL := argsL) (rest := rest) hlen hstack hW hd (fun _ _ => ⟨has, eT, hR.2.2.1, hR.2.2.2⟩)
  dsimp only [Pt.U, Pt.locs, Pt.cells, Pt.slots] at X' l1 l2 l3 st hQ
  subst l1 l2 l3
  exact ⟨v, T', L, X', hQ, fun _ t => st.trans t⟩
theorem own_private (X : Stand p l e R s m args below meth c T locs cells slots) (hx : p.tables.exec = Jvm.exec) (hZ : Z.Warmed39 s.vm) {own : String} {index : Nat} {y x0 y0 : MethodName} {bytes : ByteArray} {maxL : Nat} {ret : Option FieldType} {rm : Room} {Q : Option Value → Heap → List Loc → Prop} {as' : Array Value}
    (hown : s.vm.findClass own = some m.cls) (w1 : (Cond.methodLink own index y).before a0 Z = true) (w6 : (Cond.instanceMethod y).before a0 Z = true) (w5 : (Cond.selects C x0 y0).before a0 Z = true) (hyy : y0.cls = y.cls) (w7 : (Cond.privateMethod y).before a0 Z = true) (w3 : (Cond.initialized y.cls).before a0 Z = true) (w4 : (Cond.code y bytes maxL ret).before a0 Z = true) (hy : y.cls ≠ "java/lang/invoke/MethodHandle" ∧ y.cls ≠ "java/lang/invoke/VarHandle")
    (hM : MetFree l y (head1 [Cond.code y bytes maxL ret] rm) (fun a U => a = as' ∧ Z.Warmed39 U.vm ∧ U.heap = h) (fun _ _ _ _ _ => True) (fun _ U o U' => ∃ v L, o = .returned v ∧ Q v U'.heap L ∧ FrameEnd U o U' L rm.cells rm.slots))
    (eT : T.heap = h) (E : Exa Z h a nm) {W : Nat} (hR : rm.frames + 1 ≤ R.frames ∧ W + (maxL + 11) + rm.locals ≤ R.locals ∧ cells + rm.cells ≤ R.cells ∧ slots + rm.slots ≤ R.slots)
    {g : JFrame} (hg : g.method = m) (hsize : g.locals.size = c.maxLocals) {argsL rest : List Value} (hlen : ∀ sig, parseMethodDescriptor y.desc = some sig → argsL.length = sig.parameters.length) (hstack : g.stack = argsL.reverse ++ .ref a :: rest) (has : (.ref a :: argsL).toArray = as') (hW : 2 * g.monitorRoom + (rest.map fun v => v.category).sum ≤ W) (hd : decode c.code g.pc = .ok (.invokevirtual index, 3)) :
    ∃ (v : Option Value) (T' : State) (L : List Loc), Stand p l e R s m args below meth c T' (locs ++ L) (cells + rm.cells) (slots + rm.slots) ∧ Q v T'.heap L ∧ ∀ target, Steps p.tables e below (T'.setTop { g with pc := g.pc + 3, stack := v.toList ++ rest }) target → Steps p.tables e below (T.setTop g) target := by
  obtain ⟨cell, _, qa, -, -, qc, -⟩ := E
  obtain ⟨mk, methM, hnamed, hmethM, -, -⟩ := Cond.instanceMethod_spec (mvT hZ w6 : (Cond.instanceMethod y).before args _ = true)
  obtain ⟨_, _, m2, -, -, q3, -, kr, hkr, hni⟩ := Cond.selects_spec (mvT hZ w5 : (Cond.selects C x0 y0).before args _ = true)
  have hc2 := findClass_of_methodNamed q3
  rw [hyy] at hc2
  have hpr := Cond.privateMethod_at (mvT hZ w7 : (Cond.privateMethod y).before args _ = true)
  have hsel := Jvm.Stand.selects_self_of_private (args := args) hc2 hkr hni hpr (mvT hZ w6) hy
  obtain ⟨v, _, ⟨T', L', k', n'⟩, -, X', ⟨L, hQ, l1, l2, l3⟩, st⟩ := X.privateBack hx (y := y) hown (mvT hZ w1) (mvT hZ w6) hsel hpr (mvT hZ w4) hy (backOf (W := W) hM hZ w4 w3 hR.1 hR.2.1) (g := g) hg hsize (Steps.refl _) (a := a) (cell := cell) (by rw [eT]; exact qa) (fun q eq => by rw [eq] at qc; exact absurd qc (by simp [VmData.isStatics])) (argsL := argsL) (rest := rest) hlen hstack hW hd (fun _ _ => ⟨has, eT, hR.2.2.1, hR.2.2.2⟩)
  dsimp only [Pt.U, Pt.locs, Pt.cells, Pt.slots] at X' l1 l2 l3 st hQ
  subst l1 l2 l3
  exact ⟨v, T', L, X', hQ, fun _ t => st.trans t⟩
theorem own_face (X : Stand p l e R s m args below meth c T locs cells slots) (hx : p.tables.exec = Jvm.exec) (hZ : Z.Warmed39 s.vm) {own : String} {index count : Nat} {y z : MethodName} {bytes : ByteArray} {maxL : Nat} {ret : Option FieldType} {rm : Room} {Q : Option Value → Heap → List Loc → Prop} {as' : Array Value}
    (hown : s.vm.findClass own = some m.cls) (w1 : (Cond.methodLink own index y).before a0 Z = true) (w2 : (Cond.declares y).before a0 Z = true) (wf : (Cond.interfaceMethod y.cls y.cls y.name y.desc).before args s = true) (w5 : (Cond.selects C y z).before a0 Z = true) (w6 : (Cond.instanceMethod z).before a0 Z = true) (w7 : (Cond.publicMethod z).before a0 Z = true) (w8 : (Cond.unhidden C y.name y.desc).before a0 Z = true) (w9 : (Cond.castable C y.cls).before a0 Z = true) (w3 : (Cond.initialized z.cls).before a0 Z = true) (w4 : (Cond.code z bytes maxL ret).before a0 Z = true) (hy : y.cls ≠ "java/lang/invoke/MethodHandle" ∧ y.cls ≠ "java/lang/invoke/VarHandle")
    (hM : MetFree l z (head1 [Cond.code z bytes maxL ret] rm) (fun a U => a = as' ∧ Z.Warmed39 U.vm ∧ U.heap = h) (fun _ _ _ _ _ => True) (fun _ U o U' => ∃ v L, o = .returned v ∧ Q v U'.heap L ∧ FrameEnd U o U' L rm.cells rm.slots))
    (eT : T.heap = h) (E : Exa Z h a C) {W : Nat} (hR : rm.frames + 1 ≤ R.frames ∧ W + (maxL + 11) + rm.locals ≤ R.locals ∧ cells + rm.cells ≤ R.cells ∧ slots + rm.slots ≤ R.slots)
    {g : JFrame} (hg : g.method = m) (hsize : g.locals.size = c.maxLocals) {argsL rest : List Value} (hlen : ∀ sig, parseMethodDescriptor y.desc = some sig → argsL.length = sig.parameters.length) (hstack : g.stack = argsL.reverse ++ .ref a :: rest) (has : (.ref a :: argsL).toArray = as') (hW : 2 * g.monitorRoom + (rest.map fun v => v.category).sum ≤ W) (hd : decode c.code g.pc = .ok (.invokeinterface index count, 5)) :
    ∃ (v : Option Value) (T' : State) (L : List Loc), Stand p l e R s m args below meth c T' (locs ++ L) (cells + rm.cells) (slots + rm.slots) ∧ Q v T'.heap L ∧ ∀ target, Steps p.tables e below (T'.setTop { g with pc := g.pc + 5, stack := v.toList ++ rest }) target → Steps p.tables e below (T.setTop g) target := by
  obtain ⟨cq, kq, qa, qb, qc⟩ := isOf hZ eT E
  obtain ⟨v, _, ⟨T', L', k', n'⟩, -, X', ⟨L, hQ, l1, l2, l3⟩, st⟩ := X.interfaceBack hx (xi := y) (y := z) hown (mvT hZ w1) (mvT hZ w2) wf (mvT hZ w5) (mvT hZ w6) (mvT hZ w7) (mvT hZ w8) (mvT hZ w9) hy (backOf (W := W) hM hZ w4 w3 hR.1 hR.2.1) qa qb qc (g := g) hg hsize (Steps.refl _) (argsL := argsL) (rest := rest) hlen hstack hW hd (fun _ _ => ⟨has, eT, hR.2.2.1, hR.2.2.2⟩)
  dsimp only [Pt.U, Pt.locs, Pt.cells, Pt.slots] at X' l1 l2 l3 st hQ
  subst l1 l2 l3
  exact ⟨v, T', L, X', hQ, fun _ t => st.trans t⟩
theorem own_mvR {U : State} {own O : String} {index : Nat} (hZ : Z.Warmed39 U.vm) (w : (Cond.fieldRef own index O nm dd).before a0 Z = true) : (Cond.fieldRef own index O nm dd).before args U = true := (Cond.fieldRef_warmed39 (s := Z) (vm' := U.vm) hZ w :)
theorem own_putFR (X : Stand p l e R s m args below meth c T locs cells slots) (hx : p.tables.exec = Jvm.exec) (hZ : Z.Warmed39 s.vm) {own O : String} {index kk : Nat} (hown : s.vm.findClass own = some m.cls) (w : (Cond.fieldRef own index O nm dd).before a0 Z = true)
    (eT : T.heap = h) {old : Value} (F : Fld Z h a O nm dd old) (E : Exa Z h a C) (L : (Cond.lays C O nm dd).before a0 Z = true) (wi : (Cond.instantiable C kk).before a0 Z = true)
    (hty : parseFieldDescriptor dd = some ty) (hn : narrow ty v = v) (hf : fits ty v = true) {g : JFrame} (hg : g.method = m) {rest : List Value} (hs : g.stack = v :: .ref a :: rest) (hd : decode c.code g.pc = .ok (.putfield index, 3)) :
    ∃ T' h', Stand p l e R s m args below meth c T' (locs ++ [⟨a, Jvm.RoadKit.slotOf Z O nm dd⟩]) cells slots ∧ T'.heap = h' ∧ Wr h h' a (Jvm.RoadKit.slotOf Z O nm dd) v ∧ ∀ target, Steps p.tables e below (T'.setTop { g with pc := g.pc + 3, stack := rest }) target → Steps p.tables e below (T.setTop g) target := by
  obtain ⟨cell, cf, k, i, f, h1, h2, h3, h4, h5, -, h7⟩ := F
  obtain ⟨cell', kc, e1, e2, e3, -⟩ := E
  cases h1.symm.trans e1
  obtain ⟨c1, k1, cf1, kf1, i1, f1, a1, a2, a3, -, -, a6, -⟩ := Laid.spec (Or.inl L)
  cases h2.symm.trans a3
  cases e2.symm.trans a1
  obtain ⟨c2, k2, i1, i2, i3, -⟩ := Cond.instantiable_spec wi
  cases e2.symm.trans i1
  cases a2.symm.trans i2
  have ht := (State.fieldFound?_type h2 hty).2
  have hfit : Z.fitsSlot cell.cls cell.vm f.slot v = true := by
    have q : Z.slotType? cell.cls cell.vm f.slot = some ty := by
      simp only [State.slotType?, a2, Option.bind_eq_bind, Option.bind_some, i3]
      cases hq : cell.vm <;> first | (rw [hq] at h5; exact Bool.noConfusion h5) | (rw [a6, ht])
    simp [State.fitsSlot, q, hf]
  have hZT : Z.Warmed39 T.vm := wtrans hZ X.warmed
  have hfit' : T.fitsSlot cell.cls cell.vm f.slot v = true := by rw [← State.fitsSlot_setVm hZT.alike] at hfit; exact hfit
  have hfin : hasFlag f.accessFlags Acc.final = false := by
    obtain ⟨_, _, _, _, _, _, -, -, b3, -, b5, -⟩ := Cond.lays_spec L
    cases h2.symm.trans b3
    exact b5
  have hownT : T.vm.findClass own = some m.cls := by rw [X.warmed.alike.findClass]; exact hown
  obtain ⟨cf', k', i', f', g1, hready⟩ := Cond.fieldRef_spec hownT (own_mvR (args := args) hZT w)
  obtain ⟨k3, g2, -⟩ := State.fieldFound?_setVm (s := Z) hZT.alike h2
  cases (show T.fieldFound? O nm dd = _ from g2).symm.trans g1
  have hlt := (Array.getElem?_eq_some_iff.mp h7).1
  have es : Jvm.RoadKit.slotOf Z O nm dd = f.slot := by simp [Jvm.RoadKit.slotOf, h2]
  rw [es]
  obtain ⟨X', st⟩ := X.putfieldReady hx hready h3 (Or.inl hfin) (show T.heap[a]? = some cell by rw [eT]; exact h1) h4 hlt (by rw [ht]; exact hn) hfit' hg hs hd
  exact ⟨_, _, X', rfl, ⟨cell, h1, h5, hlt, by rw [← eT]; rfl⟩, st⟩
end Own
/-- a body's contract -/
abbrev MF (l : Launch) (Z : State) (y : MethodName) (bytes : ByteArray) (maxL : Nat) (ret : Option FieldType) (ws : List Jvm.Cond) (rm : Room) (as' : Array Value) (h0 : Heap) (Q : Option Value → Heap → List Loc → Prop) : Prop :=
  MetFree l y (head1 (Jvm.Cond.code y bytes maxL ret :: ws) rm) (fun a U => a = as' ∧ Z.Warmed39 U.vm ∧ U.heap = h0) (fun _ _ _ _ _ => True) (fun _ U o U' => ∃ v L, o = .returned v ∧ Q v U'.heap L ∧ FrameEnd U o U' L rm.cells rm.slots)
theorem own_body {l : Launch} {Z : State} {y : MethodName} {bytes : ByteArray} {maxL : Nat} {ret : Option FieldType} {ws : List Jvm.Cond} {rm : Room} {as' : Array Value} {h0 : Heap} {Q : Option Value → Heap → List Loc → Prop} {k n : Nat} {L0 : Array Slot} (hp : plainFor y = true) (hef : ∀ m, entryFrame m as' maxL = mkF m 0 L0 []) (hk : k ≤ rm.cells) (hn : n ≤ rm.slots)
    (H : ∀ (p : Program) (e : Env) (s : State) (m : MethodId) (below : List Frame) (meth : Method) (c : Code) (s₁ : State), p.tables.exec = Jvm.exec → c.code = bytes → c.maxLocals = maxL → s.vm.findClass y.cls = some m.cls → meth.name = y.name → meth.sig.returnType = ret → Z.Warmed39 s.vm → s.heap = h0 → s₁.heap = h0 → Stand p l e rm s m as' below meth c s₁ [] 0 0 →
      ∃ (T : State) (L : List Loc) (v : Option Value), Stand p l e rm s m as' below meth c T L k n ∧ (ret = none → v = none) ∧ Q v T.heap L ∧ ∀ fs, (∀ (f : JFrame) (acts : List Action), f.method = m → f.locked = none → f.entered = [] → (doReturn e (T.setTop f) acts v).1 = T.setFrames fs) → Steps p.tables e below (s₁.setTop (mkF m 0 L0 [])) (T.setFrames fs)) :
    MetFree l y (head1 (Jvm.Cond.code y bytes maxL ret :: ws) rm) (fun a U => a = as' ∧ Z.Warmed39 U.vm ∧ U.heap = h0) (fun _ _ _ _ _ => True) (fun _ U o U' => ∃ v L, o = .returned v ∧ Q v U'.heap L ∧ FrameEnd U o U' L k n) := by
  refine MetFree.of_bodySF hp hisR ?_
  intro p e s m args below meth c s₁ Bd hml0 hP hK
  obtain ⟨rfl, hZ, hh⟩ := hP
  have e0 : s₁.heap = h0 := by rw [← hh, Bd.state]; rfl
  have hnm := (name_of_methodNamed Bd.named Bd.method).1
  obtain ⟨T, L, v, X, hv, hQ, st⟩ := H p e s m below meth c s₁ Bd.exec Bd.bytes hml0 (findClass_of_methodNamed Bd.named) hnm Bd.returns hZ hh e0 (Stand.of_body Bd)
  obtain ⟨fs, hr, hrun, hended, hW, hsame⟩ := X.leave (v := v) (fun h => hv (Bd.returns.symm.trans h)) Bd.notSynchronized
  refine ⟨_, _, castTop (hef m) (st fs hr), hrun, hended, v, L, rfl, ?_, ⟨_, rfl⟩, hW, hsame⟩
  exact hQ
theorem own_law {l : Launch} {Z : State} {y : MethodName} {bytes : ByteArray} {maxL : Nat} {ret : Option FieldType} {ws : List Jvm.Cond} {rm : Room} {as' : Array Value} {h0 : Heap} {Q : Option Value → List Loc → Prop} {k n k' n' : Nat} {L0 : Array Slot} (hp : plainFor y = true) (hef : ∀ m, entryFrame m as' maxL = mkF m 0 L0 []) (hk : k ≤ k') (hn : n ≤ n')
    (H : ∀ (p : Program) (e : Env) (s : State) (m : MethodId) (below : List Frame) (meth : Method) (c : Code) (s₁ : State), p.tables.exec = Jvm.exec → c.code = bytes → c.maxLocals = maxL → s.vm.findClass y.cls = some m.cls → meth.name = y.name → meth.sig.returnType = ret → Z.Warmed39 s.vm → s.heap = h0 → s₁.heap = h0 → Stand p l e rm s m as' below meth c s₁ [] 0 0 →
      ∃ (T : State) (L : List Loc) (v : Option Value), Stand p l e rm s m as' below meth c T L k n ∧ (ret = none → v = none) ∧ Q v L ∧ ∀ fs, (∀ (f : JFrame) (acts : List Action), f.method = m → f.locked = none → f.entered = [] → (doReturn e (T.setTop f) acts v).1 = T.setFrames fs) → Steps p.tables e below (s₁.setTop (mkF m 0 L0 [])) (T.setFrames fs)) :
    MetFree l y (head1 (Jvm.Cond.code y bytes maxL ret :: ws) rm) (fun a U => a = as' ∧ Z.Warmed39 U.vm ∧ U.heap = h0) (fun _ _ _ _ _ => True) (fun _ U o U' => ∃ v L, o = .returned v ∧ Q v L ∧ FrameEnd U o U' L k' n') := by
  refine MetFree.of_bodySF hp hisR ?_
  intro p e s m args below meth c s₁ Bd hml0 hP hK
  obtain ⟨rfl, hZ, hh⟩ := hP
  have e0 : s₁.heap = h0 := by rw [← hh, Bd.state]; rfl
  have hnm := (name_of_methodNamed Bd.named Bd.method).1
  obtain ⟨T, L, v, X, hv, hQ, st⟩ := H p e s m below meth c s₁ Bd.exec Bd.bytes hml0 (findClass_of_methodNamed Bd.named) hnm Bd.returns hZ hh e0 (Stand.of_body Bd)
  obtain ⟨fs, hr, hrun, hended, hW, hsame⟩ := X.leave (v := v) (fun h => hv (Bd.returns.symm.trans h)) Bd.notSynchronized
  refine ⟨_, _, castTop (hef m) (st fs hr), hrun, hended, v, L, rfl, ?_, ⟨_, rfl⟩, hW, hsame.mono hk hn⟩
  exact hQ
section OwnS
variable {p : Program} {l : Launch} {e : Env} {R : Room} {s : State} {vm0 : Vm} {m : MethodId} {args : Array Value} {below : List Frame} {meth : Method} {c : Code} {T : State} {locs : List Loc} {cells slots : Nat} {Z : State} {a0 : Array Value} {h h' h0 : Heap} {a b : Addr} {C nm dd : String} {v w : Value} {sl n0 : Nat}
theorem own_since (s : State) : s.Since s.vm s.heap.size := (State.WarmedH.refl s).since _
theorem own_REmono {s t : State} {o : Outcome} {L : List Loc} {k n k' n' : Nat} (h : ReturnedEndW s o t L k n) (hk : k ≤ k') (hn : n ≤ n') : ReturnedEndW s o t L k' n' := ⟨h.1, h.2.1, h.2.2.1, h.2.2.2.mono hk hn⟩
theorem own_Sface (X : Stand p l e R (s.setVm vm0) m args below meth c T locs cells slots) (hx : p.tables.exec = Jvm.exec) (hZ : Z.Warmed39 vm0) {own : String} {index count : Nat} {y z : MethodName} {bytes : ByteArray} {maxL : Nat} {ret : Option FieldType} {rm : Room} {Q : Option Value → Heap → List Loc → Prop} {as' : Array Value}
    (hown : vm0.findClass own = some m.cls) (w1 : (Cond.methodLink own index y).before a0 Z = true) (w2 : (Cond.declares y).before a0 Z = true) (wf : (Cond.interfaceMethod y.cls y.cls y.name y.desc).before args (s.setVm vm0) = true) (w5 : (Cond.selects C y z).before a0 Z = true) (w6 : (Cond.instanceMethod z).before a0 Z = true) (w7 : (Cond.publicMethod z).before a0 Z = true) (w8 : (Cond.unhidden C y.name y.desc).before a0 Z = true) (w9 : (Cond.castable C y.cls).before a0 Z = true) (w3 : (Cond.initialized z.cls).before a0 Z = true) (w4 : (Cond.code z bytes maxL ret).before a0 Z = true) (hy : y.cls ≠ "java/lang/invoke/MethodHandle" ∧ y.cls ≠ "java/lang/invoke/VarHandle")
    (hM : MetFree l z (head1 [Cond.code z bytes maxL ret] rm) (fun a U => a = as' ∧ Z.Warmed39 U.vm ∧ U.heap = h) (fun _ _ _ _ _ => True) (fun _ U o U' => ∃ v L, o = .returned v ∧ Q v U'.heap L ∧ ReturnedEndW U o U' L rm.cells rm.slots))
    (eT : T.heap = h) (E : Exa Z h a C) {W : Nat} (hR : rm.frames + 1 ≤ R.frames ∧ W + (maxL + 11) + rm.locals ≤ R.locals ∧ cells + rm.cells ≤ R.cells ∧ slots + rm.slots ≤ R.slots)
    {g : JFrame} (hg : g.method = m) (hsize : g.locals.size = c.maxLocals) {argsL rest : List Value} (hlen : ∀ sig, parseMethodDescriptor y.desc = some sig → argsL.length = sig.parameters.length) (hstack : g.stack = argsL.reverse ++ .ref a :: rest) (has : (.ref a :: argsL).toArray = as') (hW : 2 * g.monitorRoom + (rest.map fun v => v.category).sum ≤ W) (hd : decode c.code g.pc = .ok (.invokeinterface index count, 5)) {k0 : Nat} (hS : s.Since vm0 k0) (hk : k0 ≤ h.size) :
    ∃ (v : Option Value) (T' : State) (L : List Loc), Stand p l e R (s.setVm T'.vm) m args below meth c T' (locs ++ L) (cells + rm.cells) (slots + rm.slots) ∧ s.Since T'.vm T'.heap.size ∧ T'.heap.size ≤ T'.heap.size ∧ Z.Warmed39 T'.vm ∧ T'.vm.findClass own = some m.cls ∧ Q v T'.heap L ∧ ∀ target, Steps p.tables e below (T'.setTop { g with pc := g.pc + 5, stack := v.toList ++ rest }) target → Steps p.tables e below (T.setTop g) target := by
  obtain ⟨cq, kq, qa, qb, qc⟩ := isOf (s := s.setVm vm0) hZ eT E
  obtain ⟨v, _, ⟨T', L', k', n'⟩, -, X', hS', hg', ⟨L, hQ, l1, l2, l3⟩, st⟩ := X.interfaceBackS hx (xi := y) (y := z) hown (mvT (s := s.setVm vm0) hZ w1) (mvT (s := s.setVm vm0) hZ w2) wf (mvT (s := s.setVm vm0) hZ w5) (mvT (s := s.setVm vm0) hZ w6) (mvT (s := s.setVm vm0) hZ w7) (mvT (s := s.setVm vm0) hZ w8) (mvT (s := s.setVm vm0) hZ w9) hy (backOfS (s := s.setVm vm0) (W := W) hM hZ w4 w3 hR.1 hR.2.1) qa qb qc (g := g) hg hsize (Steps.refl _) (argsL := argsL) (rest := rest) hlen hstack hW hd (fun _ _ => ⟨has, eT, hR.2.2.1, hR.2.2.2⟩)
  dsimp only [Pt.U, Pt.locs, Pt.cells, Pt.slots] at X' hS' hg' l1 l2 l3 st hQ
  subst l1 l2 l3
  have q := hS.trans hS' (Nat.le_trans hk (by rw [← eT]; exact hg'))
  exact ⟨v, T', L, X', q, Nat.le_refl _, State.Warmed39.trans (t := s.setVm vm0) hZ hS'.1, by rw [hS'.1.alike.findClass]; exact hown, hQ, fun _ t => st.trans t⟩
end OwnS
theorem own_bodyS {l : Launch} {Z : State} {y : MethodName} {bytes : ByteArray} {maxL : Nat} {ret : Option FieldType} {ws : List Jvm.Cond} {rm : Room} {as' : Array Value} {h0 : Heap} {Q : Option Value → Heap → List Loc → Prop} {k n k' n' : Nat} {L0 : Array Slot} (hp : plainFor y = true) (hef : ∀ m, entryFrame m as' maxL = mkF m 0 L0 []) (hk : k ≤ k') (hn : n ≤ n')
    (H : ∀ (p : Program) (e : Env) (s : State) (m : MethodId) (below : List Frame) (meth : Method) (c : Code) (s₁ : State), p.tables.exec = Jvm.exec → c.code = bytes → c.maxLocals = maxL → s.vm.findClass y.cls = some m.cls → meth.name = y.name → meth.sig.returnType = ret → Z.Warmed39 s.vm → s₁.heap = h0 → s.Since s.vm s.heap.size → s.heap.size ≤ h0.size → Stand p l e rm (s.setVm s.vm) m as' below meth c s₁ [] 0 0 →
      ∃ (T : State) (L : List Loc) (v : Option Value) (vm1 : Vm) (n1 : Nat), Stand p l e rm (s.setVm vm1) m as' below meth c T L k n ∧ s.Since vm1 n1 ∧ n1 ≤ T.heap.size ∧ (ret = none → v = none) ∧ Q v T.heap L ∧ ∀ fs, (∀ (f : JFrame) (acts : List Action), f.method = m → f.locked = none → f.entered = [] → (doReturn e (T.setTop f) acts v).1 = T.setFrames fs) → Steps p.tables e below (s₁.setTop (mkF m 0 L0 [])) (T.setFrames fs)) :
    MetFree l y (head1 (Jvm.Cond.code y bytes maxL ret :: ws) rm) (fun a U => a = as' ∧ Z.Warmed39 U.vm ∧ U.heap = h0) (fun _ _ _ _ _ => True) (fun _ U o U' => ∃ v L, o = .returned v ∧ Q v U'.heap L ∧ ReturnedEndW U o U' L k' n') := by
  refine MetFree.of_bodySF hp hisR ?_
  intro p e s m args below meth c s₁ Bd hml0 hP hK
  obtain ⟨rfl, hZ, hh⟩ := hP
  have e0 : s₁.heap = h0 := by rw [← hh, Bd.state]; rfl
  have hnm := (name_of_methodNamed Bd.named Bd.method).1
  obtain ⟨T, L, v, vm1, n1, X, hS, hn1, hv, hQ, st⟩ := H p e s m below meth c s₁ Bd.exec Bd.bytes hml0 (findClass_of_methodNamed Bd.named) hnm Bd.returns hZ e0 (own_since s) (Nat.le_of_eq (congrArg Array.size hh)) (Stand.of_body Bd)
  obtain ⟨fs, hr, hrun, hended, hRE⟩ := X.leaveW hS hn1 (v := v) (fun h => hv (Bd.returns.symm.trans h)) Bd.notSynchronized
  exact ⟨_, _, castTop (hef m) (st fs hr), hrun, hended, v, L, rfl, hQ, own_REmono hRE hk hn⟩
section OwnH
variable {p : Program} {l : Launch} {e : Env} {R : Room} {s : State} {vm0 vm : Vm} {m : MethodId} {args : Array Value} {below : List Frame} {meth : Method} {c : Code} {T : State} {locs : List Loc} {cells slots : Nat} {Z : State} {a0 : Array Value} {h h' h0 : Heap} {a b : Addr} {C nm dd : String} {v w : Value} {sl n0 : Nat} {EL : List (String × Nat)}
theorem own_chK {ws : List (Addr × Nat)} (K : KL h h' ws) (hs : ∀ w ∈ ws, Safe Z EL vm h w.1) (H : CHv Z EL vm h) : CHr Z EL vm h vm h' ∧ ∀ x, Safe Z EL vm h x → Safe Z EL vm h' x := by
  have q := H.step (h' := h') (fun y B cell hy => by
    obtain ⟨c', r1, -, -, -, -, r6⟩ := K.2 y cell hy
    rw [r1, r6 fun w hw e => hs w hw (by rw [e]; exact B)])
  exact ⟨⟨q.1, K.1, fun y b => Or.inl (q.2 y b)⟩, fun x S B => S (q.2 x B)⟩
theorem sf0 {P : Addr → Prop} : ∀ x ∈ ([] : List Addr), P x := fun _ q => nomatch q
theorem own_backH {y : MethodName} {bytes : ByteArray} {maxL : Nat} {ret : Option FieldType} {rm : Room} {len W : Nat} {as' : Array Value} {SF : List Addr} {Q : Option Value → Heap → List Loc → Prop}
    (hM : MetFree l y (head1 [Cond.code y bytes maxL ret] rm) (fun a U => a = as' ∧ Z.Warmed39 U.vm ∧ U.heap = h ∧ CHv Z EL U.vm h ∧ ∀ x ∈ SF, Safe Z EL U.vm h x) (fun _ _ _ _ _ => True) (fun _ U o U' => ∃ v L, o = .returned v ∧ Q v U'.heap L ∧ CHr Z EL U.vm U.heap U'.vm U'.heap ∧ ReturnedEndW U o U' L rm.cells rm.slots))
    (hZ : Z.Warmed39 vm0) (wc : (Cond.code y bytes maxL ret).before a0 Z = true) (wz : (Cond.initialized y.cls).before a0 Z = true) (hf : rm.frames + 1 ≤ R.frames) (hl : W + (maxL + 11) + rm.locals ≤ R.locals) (hEL : EW Z a0 EL) (H : CHv Z EL vm0 h) (hSF : ∀ x ∈ SF, Safe Z EL vm0 h x ∧ x < h.size) :
    BackS l R p e below (s.setVm vm0) args y len W (fun A a => a = as' ∧ A.U.heap = h ∧ A.cells + rm.cells ≤ R.cells ∧ A.slots + rm.slots ≤ R.slots)
      (fun A _ v B => ∃ L, Q v B.U.heap L ∧ B.locs = A.locs ++ L ∧ B.cells = A.cells + rm.cells ∧ B.slots = A.slots + rm.slots ∧ CHr Z EL vm0 h B.U.vm B.U.heap) := by
  refine BackS.of_freeW (bytes := bytes) (maxL := maxL) (ret := ret) (E := fun _ first o t L k n => k = rm.cells ∧ n = rm.slots ∧ (∃ v, o = .returned v ∧ Q v t.heap L) ∧ CHr Z EL first.vm first.heap t.vm t.heap) hM hf hl ?_ ?_ (fun _ _ _ _ _ _ _ _ _ => trivial) ?_ ?_
  · intro m meth c A a Y hp
    have hU : Z.Warmed39 A.U.vm := wtrans (s := s.setVm vm0) hZ Y.warmed
    exact ⟨by show (Cond.and _ .tt).before a A.U = true; rw [Cond.before_and, mv hU wc]; rfl, mv hU wc, mv hU wz, hp.2.2.1, hp.2.2.2⟩
  · intro m meth c A a g mk Y hp
    have q := CHv.at Y hZ hEL H
    exact ⟨hp.1, wtrans (s := s.setVm vm0) hZ Y.warmed, hp.2.1, q.1, fun x hx => q.safe (hSF x hx).2 (hSF x hx).1⟩
  · intro _ _ _ _ ⟨v, L, h1, h2, h3, h4⟩
    exact ⟨L, _, _, h4, rfl, rfl, ⟨v, h1, h2⟩, h3⟩
  · intro m meth c A a g mk v t L k n Y hp _ _ ⟨e1, e2, ⟨v', e3, e4⟩, e5⟩
    cases e3; subst e1 e2
    refine ⟨L, e4, rfl, rfl, rfl, (CHv.at Y hZ hEL H).trans ?_⟩
    rw [← hp.2.1]; exact e5
theorem naF {x : Addr × Nat} {L : List (Addr × Nat)} (q : Safe Z EL vm h x.1) (r : ∀ w ∈ L, Safe Z EL vm h w.1) : ∀ w ∈ x :: L, Safe Z EL vm h w.1 := naS (P := fun w => Safe Z EL vm h w.1) q r
theorem naFM {L : List (Addr × Nat)} (n : Nat) (e : (L.take n).map Prod.fst = List.replicate n b) (q : Safe Z EL vm h b) (r : ∀ w ∈ L.drop n, Safe Z EL vm h w.1) : ∀ w ∈ L, Safe Z EL vm h w.1 := naM (Q := fun w => Safe Z EL vm h w.1) n e (fun _ => q) r
theorem own_Hvirtual (X : Stand p l e R (s.setVm vm0) m args below meth c T locs cells slots) (hx : p.tables.exec = Jvm.exec) (hZ : Z.Warmed39 vm0) {own : String} {index : Nat} {y z : MethodName} {bytes : ByteArray} {maxL : Nat} {ret : Option FieldType} {rm : Room} {Q : Option Value → Heap → List Loc → Prop} {as' : Array Value} {SF : List Addr}
    (hown : vm0.findClass own = some m.cls) (w1 : (Cond.methodLink own index y).before a0 Z = true) (w2 : (Cond.declares y).before a0 Z = true) (hnf : NotFace (s.setVm vm0) y) (w5 : (Cond.selects C y z).before a0 Z = true) (w6 : (Cond.instanceMethod z).before a0 Z = true) (w3 : (Cond.initialized z.cls).before a0 Z = true) (w4 : (Cond.code z bytes maxL ret).before a0 Z = true) (hy : y.cls ≠ "java/lang/invoke/MethodHandle" ∧ y.cls ≠ "java/lang/invoke/VarHandle")
    (hM : MetFree l z (head1 [Cond.code z bytes maxL ret] rm) (fun a U => a = as' ∧ Z.Warmed39 U.vm ∧ U.heap = h ∧ CHv Z EL U.vm h ∧ ∀ x ∈ SF, Safe Z EL U.vm h x) (fun _ _ _ _ _ => True) (fun _ U o U' => ∃ v L, o = .returned v ∧ Q v U'.heap L ∧ CHr Z EL U.vm U.heap U'.vm U'.heap ∧ ReturnedEndW U o U' L rm.cells rm.slots))
    (eT : T.heap = h) (E : Exa Z h a C) {W : Nat} (hR : rm.frames + 1 ≤ R.frames ∧ W + (maxL + 11) + rm.locals ≤ R.locals ∧ cells + rm.cells ≤ R.cells ∧ slots + rm.slots ≤ R.slots)
    {g : JFrame} (hg : g.method = m) (hsize : g.locals.size = c.maxLocals) {argsL rest : List Value} (hlen : ∀ sig, parseMethodDescriptor y.desc = some sig → argsL.length = sig.parameters.length) (hstack : g.stack = argsL.reverse ++ .ref a :: rest) (has : (.ref a :: argsL).toArray = as') (hW : 2 * g.monitorRoom + (rest.map fun v => v.category).sum ≤ W) (hd : decode c.code g.pc = .ok (.invokevirtual index, 3)) {k0 : Nat} (hS : s.Since vm0 k0) (hk : k0 ≤ h.size) (hEL : EW Z a0 EL) (H : CHv Z EL vm0 h) (hSF : ∀ x ∈ SF, Safe Z EL vm0 h x ∧ x < h.size) :
    ∃ (v : Option Value) (T' : State) (L : List Loc), Stand p l e R (s.setVm T'.vm) m args below meth c T' (locs ++ L) (cells + rm.cells) (slots + rm.slots) ∧ s.Since T'.vm T'.heap.size ∧ T'.heap.size ≤ T'.heap.size ∧ Z.Warmed39 T'.vm ∧ T'.vm.findClass own = some m.cls ∧ Q v T'.heap L ∧ CHr Z EL vm0 h T'.vm T'.heap ∧ ∀ target, Steps p.tables e below (T'.setTop { g with pc := g.pc + 3, stack := v.toList ++ rest }) target → Steps p.tables e below (T.setTop g) target := by
  obtain ⟨cq, kq, qa, qb, qc⟩ := isOf (s := s.setVm vm0) hZ eT E
  obtain ⟨v, _, ⟨T', L', k', n'⟩, -, X', hS', hg', ⟨L, hQ, l1, l2, l3, hC⟩, st⟩ := X.virtualBackS hx (y := y) (z := z) hown (mvT (s := s.setVm vm0) hZ w1) (mvT (s := s.setVm vm0) hZ w2) hnf (mvT (s := s.setVm vm0) hZ w5) (mvT (s := s.setVm vm0) hZ w6) hy (own_backH (s := s) (W := W) hM hZ w4 w3 hR.1 hR.2.1 hEL H hSF) qa qc (g := g) hg hsize (Steps.refl _) (argsL := argsL) (rest := rest) hlen hstack hW hd (fun _ _ => ⟨has, eT, hR.2.2.1, hR.2.2.2⟩)
  dsimp only [Pt.U, Pt.locs, Pt.cells, Pt.slots] at X' hS' hg' l1 l2 l3 st hQ hC
  subst l1 l2 l3
  have q := hS.trans hS' (Nat.le_trans hk (by rw [← eT]; exact hg'))
  exact ⟨v, T', L, X', q, Nat.le_refl _, State.Warmed39.trans (t := s.setVm vm0) hZ hS'.1, by rw [hS'.1.alike.findClass]; exact hown, hQ, hC, fun _ t => st.trans t⟩
theorem own_Hprivate (X : Stand p l e R (s.setVm vm0) m args below meth c T locs cells slots) (hx : p.tables.exec = Jvm.exec) (hZ : Z.Warmed39 vm0) {own : String} {index : Nat} {y x0 y0 : MethodName} {bytes : ByteArray} {maxL : Nat} {ret : Option FieldType} {rm : Room} {Q : Option Value → Heap → List Loc → Prop} {as' : Array Value} {SF : List Addr}
    (hown : vm0.findClass own = some m.cls) (w1 : (Cond.methodLink own index y).before a0 Z = true) (w6 : (Cond.instanceMethod y).before a0 Z = true) (w5 : (Cond.selects C x0 y0).before a0 Z = true) (hyy : y0.cls = y.cls) (w7 : (Cond.privateMethod y).before a0 Z = true) (w3 : (Cond.initialized y.cls).before a0 Z = true) (w4 : (Cond.code y bytes maxL ret).before a0 Z = true) (hy : y.cls ≠ "java/lang/invoke/MethodHandle" ∧ y.cls ≠ "java/lang/invoke/VarHandle")
    (hM : MetFree l y (head1 [Cond.code y bytes maxL ret] rm) (fun a U => a = as' ∧ Z.Warmed39 U.vm ∧ U.heap = h ∧ CHv Z EL U.vm h ∧ ∀ x ∈ SF, Safe Z EL U.vm h x) (fun _ _ _ _ _ => True) (fun _ U o U' => ∃ v L, o = .returned v ∧ Q v U'.heap L ∧ CHr Z EL U.vm U.heap U'.vm U'.heap ∧ ReturnedEndW U o U' L rm.cells rm.slots))
    (eT : T.heap = h) (E : Exa Z h a nm) {W : Nat} (hR : rm.frames + 1 ≤ R.frames ∧ W + (maxL + 11) + rm.locals ≤ R.locals ∧ cells + rm.cells ≤ R.cells ∧ slots + rm.slots ≤ R.slots)
    {g : JFrame} (hg : g.method = m) (hsize : g.locals.size = c.maxLocals) {argsL rest : List Value} (hlen : ∀ sig, parseMethodDescriptor y.desc = some sig → argsL.length = sig.parameters.length) (hstack : g.stack = argsL.reverse ++ .ref a :: rest) (has : (.ref a :: argsL).toArray = as') (hW : 2 * g.monitorRoom + (rest.map fun v => v.category).sum ≤ W) (hd : decode c.code g.pc = .ok (.invokevirtual index, 3)) {k0 : Nat} (hS : s.Since vm0 k0) (hk : k0 ≤ h.size) (hEL : EW Z a0 EL) (H : CHv Z EL vm0 h) (hSF : ∀ x ∈ SF, Safe Z EL vm0 h x ∧ x < h.size) :
    ∃ (v : Option Value) (T' : State) (L : List Loc), Stand p l e R (s.setVm T'.vm) m args below meth c T' (locs ++ L) (cells + rm.cells) (slots + rm.slots) ∧ s.Since T'.vm T'.heap.size ∧ T'.heap.size ≤ T'.heap.size ∧ Z.Warmed39 T'.vm ∧ T'.vm.findClass own = some m.cls ∧ Q v T'.heap L ∧ CHr Z EL vm0 h T'.vm T'.heap ∧ ∀ target, Steps p.tables e below (T'.setTop { g with pc := g.pc + 3, stack := v.toList ++ rest }) target → Steps p.tables e below (T.setTop g) target := by
  obtain ⟨cell, _, qa, -, -, qc, -⟩ := E
  obtain ⟨mk, methM, hnamed, hmethM, -, -⟩ := Cond.instanceMethod_spec (mvT (s := s.setVm vm0) hZ w6 : (Cond.instanceMethod y).before args _ = true)
  obtain ⟨_, _, m2, -, -, q3, -, kr, hkr, hni⟩ := Cond.selects_spec (mvT (s := s.setVm vm0) hZ w5 : (Cond.selects C x0 y0).before args _ = true)
  have hc2 := findClass_of_methodNamed q3
  rw [hyy] at hc2
  have hpr := Cond.privateMethod_at (mvT (s := s.setVm vm0) hZ w7 : (Cond.privateMethod y).before args _ = true)
  have hsel := Jvm.Stand.selects_self_of_private (args := args) hc2 hkr hni hpr (mvT (s := s.setVm vm0) hZ w6) hy
  obtain ⟨v, _, ⟨T', L', k', n'⟩, -, X', hS', hg', ⟨L, hQ, l1, l2, l3, hC⟩, st⟩ := X.privateBackS hx (y := y) hown (mvT (s := s.setVm vm0) hZ w1) (mvT (s := s.setVm vm0) hZ w6) hsel hpr (mvT (s := s.setVm vm0) hZ w4) hy (own_backH (s := s) (W := W) hM hZ w4 w3 hR.1 hR.2.1 hEL H hSF) (g := g) hg hsize (Steps.refl _) (a := a) (cell := cell) (by rw [eT]; exact qa) (fun q eq => by rw [eq] at qc; exact absurd qc (by simp [VmData.isStatics])) (argsL := argsL) (rest := rest) hlen hstack hW hd (fun _ _ => ⟨has, eT, hR.2.2.1, hR.2.2.2⟩)
  dsimp only [Pt.U, Pt.locs, Pt.cells, Pt.slots] at X' hS' hg' l1 l2 l3 st hQ hC
  subst l1 l2 l3
  have q := hS.trans hS' (Nat.le_trans hk (by rw [← eT]; exact hg'))
  exact ⟨v, T', L, X', q, Nat.le_refl _, State.Warmed39.trans (t := s.setVm vm0) hZ hS'.1, by rw [hS'.1.alike.findClass]; exact hown, hQ, hC, fun _ t => st.trans t⟩
theorem own_Hface (X : Stand p l e R (s.setVm vm0) m args below meth c T locs cells slots) (hx : p.tables.exec = Jvm.exec) (hZ : Z.Warmed39 vm0) {own : String} {index count : Nat} {y z : MethodName} {bytes : ByteArray} {maxL : Nat} {ret : Option FieldType} {rm : Room} {Q : Option Value → Heap → List Loc → Prop} {as' : Array Value} {SF : List Addr}
    (hown : vm0.findClass own = some m.cls) (w1 : (Cond.methodLink own index y).before a0 Z = true) (w2 : (Cond.declares y).before a0 Z = true) (wf : (Cond.interfaceMethod y.cls y.cls y.name y.desc).before args (s.setVm vm0) = true) (w5 : (Cond.selects C y z).before a0 Z = true) (w6 : (Cond.instanceMethod z).before a0 Z = true) (w7 : (Cond.publicMethod z).before a0 Z = true) (w8 : (Cond.unhidden C y.name y.desc).before a0 Z = true) (w9 : (Cond.castable C y.cls).before a0 Z = true) (w3 : (Cond.initialized z.cls).before a0 Z = true) (w4 : (Cond.code z bytes maxL ret).before a0 Z = true) (hy : y.cls ≠ "java/lang/invoke/MethodHandle" ∧ y.cls ≠ "java/lang/invoke/VarHandle")
    (hM : MetFree l z (head1 [Cond.code z bytes maxL ret] rm) (fun a U => a = as' ∧ Z.Warmed39 U.vm ∧ U.heap = h ∧ CHv Z EL U.vm h ∧ ∀ x ∈ SF, Safe Z EL U.vm h x) (fun _ _ _ _ _ => True) (fun _ U o U' => ∃ v L, o = .returned v ∧ Q v U'.heap L ∧ CHr Z EL U.vm U.heap U'.vm U'.heap ∧ ReturnedEndW U o U' L rm.cells rm.slots))
    (eT : T.heap = h) (E : Exa Z h a C) {W : Nat} (hR : rm.frames + 1 ≤ R.frames ∧ W + (maxL + 11) + rm.locals ≤ R.locals ∧ cells + rm.cells ≤ R.cells ∧ slots + rm.slots ≤ R.slots)
    {g : JFrame} (hg : g.method = m) (hsize : g.locals.size = c.maxLocals) {argsL rest : List Value} (hlen : ∀ sig, parseMethodDescriptor y.desc = some sig → argsL.length = sig.parameters.length) (hstack : g.stack = argsL.reverse ++ .ref a :: rest) (has : (.ref a :: argsL).toArray = as') (hW : 2 * g.monitorRoom + (rest.map fun v => v.category).sum ≤ W) (hd : decode c.code g.pc = .ok (.invokeinterface index count, 5)) {k0 : Nat} (hS : s.Since vm0 k0) (hk : k0 ≤ h.size) (hEL : EW Z a0 EL) (H : CHv Z EL vm0 h) (hSF : ∀ x ∈ SF, Safe Z EL vm0 h x ∧ x < h.size) :
    ∃ (v : Option Value) (T' : State) (L : List Loc), Stand p l e R (s.setVm T'.vm) m args below meth c T' (locs ++ L) (cells + rm.cells) (slots + rm.slots) ∧ s.Since T'.vm T'.heap.size ∧ T'.heap.size ≤ T'.heap.size ∧ Z.Warmed39 T'.vm ∧ T'.vm.findClass own = some m.cls ∧ Q v T'.heap L ∧ CHr Z EL vm0 h T'.vm T'.heap ∧ ∀ target, Steps p.tables e below (T'.setTop { g with pc := g.pc + 5, stack := v.toList ++ rest }) target → Steps p.tables e below (T.setTop g) target := by
  obtain ⟨cq, kq, qa, qb, qc⟩ := isOf (s := s.setVm vm0) hZ eT E
  obtain ⟨v, _, ⟨T', L', k', n'⟩, -, X', hS', hg', ⟨L, hQ, l1, l2, l3, hC⟩, st⟩ := X.interfaceBackS hx (xi := y) (y := z) hown (mvT (s := s.setVm vm0) hZ w1) (mvT (s := s.setVm vm0) hZ w2) wf (mvT (s := s.setVm vm0) hZ w5) (mvT (s := s.setVm vm0) hZ w6) (mvT (s := s.setVm vm0) hZ w7) (mvT (s := s.setVm vm0) hZ w8) (mvT (s := s.setVm vm0) hZ w9) hy (own_backH (s := s) (W := W) hM hZ w4 w3 hR.1 hR.2.1 hEL H hSF) qa qb qc (g := g) hg hsize (Steps.refl _) (argsL := argsL) (rest := rest) hlen hstack hW hd (fun _ _ => ⟨has, eT, hR.2.2.1, hR.2.2.2⟩)
  dsimp only [Pt.U, Pt.locs, Pt.cells, Pt.slots] at X' hS' hg' l1 l2 l3 st hQ hC
  subst l1 l2 l3
  have q := hS.trans hS' (Nat.le_trans hk (by rw [← eT]; exact hg'))
  exact ⟨v, T', L, X', q, Nat.le_refl _, State.Warmed39.trans (t := s.setVm vm0) hZ hS'.1, by rw [hS'.1.alike.findClass]; exact hown, hQ, hC, fun _ t => st.trans t⟩
end OwnH
abbrev OMH (l : Launch) (Z : State) (EL : List (String × Nat)) (SF : List Addr) (y : MethodName) (bytes : ByteArray) (maxL : Nat) (ret : Option FieldType) (ws : List Jvm.Cond) (rm : Room) (as' : Array Value) (h0 : Heap) (Q : Option Value → Heap → List Loc → Prop) : Prop :=
  MetFree l y (head1 (Jvm.Cond.code y bytes maxL ret :: ws) rm) (fun a U => a = as' ∧ Z.Warmed39 U.vm ∧ U.heap = h0 ∧ CHv Z EL U.vm h0 ∧ ∀ x ∈ SF, Safe Z EL U.vm h0 x) (fun _ _ _ _ _ => True) (fun _ U o U' => ∃ v L, o = .returned v ∧ Q v U'.heap L ∧ CHr Z EL U.vm U.heap U'.vm U'.heap ∧ ReturnedEndW U o U' L rm.cells rm.slots)
theorem own_bodyH {l : Launch} {Z : State} {a0 : Array Value} {EL : List (String × Nat)} {SF : List Addr} {y : MethodName} {bytes : ByteArray} {maxL : Nat} {ret : Option FieldType} {ws : List Jvm.Cond} {rm : Room} {as' : Array Value} {h0 : Heap} {Q : Option Value → Heap → List Loc → Prop} {k n k' n' : Nat} {L0 : Array Slot} (hEL : EW Z a0 EL) (hp : plainFor y = true) (hef : ∀ m, entryFrame m as' maxL = mkF m 0 L0 []) (hk : k ≤ k') (hn : n ≤ n')
    (H : ∀ (p : Program) (e : Env) (s : State) (m : MethodId) (below : List Frame) (meth : Method) (c : Code) (s₁ : State), p.tables.exec = Jvm.exec → c.code = bytes → c.maxLocals = maxL → s.vm.findClass y.cls = some m.cls → meth.name = y.name → meth.sig.returnType = ret → Z.Warmed39 s.vm → s₁.heap = h0 → s.Since s.vm s.heap.size → s.heap.size ≤ h0.size → Stand p l e rm (s.setVm s.vm) m as' below meth c s₁ [] 0 0 → CHv Z EL s.vm h0 → (∀ x ∈ SF, Safe Z EL s.vm h0 x) →
      ∃ (T : State) (L : List Loc) (v : Option Value) (vm1 : Vm) (n1 : Nat), Stand p l e rm (s.setVm vm1) m as' below meth c T L k n ∧ s.Since vm1 n1 ∧ n1 ≤ T.heap.size ∧ (ret = none → v = none) ∧ Q v T.heap L ∧ CHr Z EL s.vm h0 vm1 T.heap ∧ Z.Warmed39 vm1 ∧ ∀ fs, (∀ (f : JFrame) (acts : List Action), f.method = m → f.locked = none → f.entered = [] → (doReturn e (T.setTop f) acts v).1 = T.setFrames fs) → Steps p.tables e below (s₁.setTop (mkF m 0 L0 [])) (T.setFrames fs)) :
    MetFree l y (head1 (Jvm.Cond.code y bytes maxL ret :: ws) rm) (fun a U => a = as' ∧ Z.Warmed39 U.vm ∧ U.heap = h0 ∧ CHv Z EL U.vm h0 ∧ ∀ x ∈ SF, Safe Z EL U.vm h0 x) (fun _ _ _ _ _ => True) (fun _ U o U' => ∃ v L, o = .returned v ∧ Q v U'.heap L ∧ CHr Z EL U.vm U.heap U'.vm U'.heap ∧ ReturnedEndW U o U' L k' n') := by
  refine MetFree.of_bodySF hp hisR ?_
  intro p e s m args below meth c s₁ Bd hml0 hP hK
  obtain ⟨rfl, hZ, hh, hC, hSF⟩ := hP
  have e0 : s₁.heap = h0 := by rw [← hh, Bd.state]; rfl
  have hnm := (name_of_methodNamed Bd.named Bd.method).1
  obtain ⟨T, L, v, vm1, n1, X, hS, hn1, hv, hQ, hA, hZ1, st⟩ := H p e s m below meth c s₁ Bd.exec Bd.bytes hml0 (findClass_of_methodNamed Bd.named) hnm Bd.returns hZ e0 (own_since s) (Nat.le_of_eq (congrArg Array.size hh)) (Stand.of_body Bd) hC hSF
  obtain ⟨fs, hr, hrun, hended, hRE⟩ := X.leaveW hS hn1 (v := v) (fun h => hv (Bd.returns.symm.trans h)) Bd.notSynchronized
  have hB := hA.trans (CHv.at X hZ1 hEL hA.1)
  rw [← hh] at hB
  exact ⟨_, _, castTop (hef m) (st fs hr), hrun, hended, v, L, rfl, hQ, hB, own_REmono hRE hk hn⟩
theorem t_iloadN {tb : Tables} [Ours tb] {e : Env} {below : List Frame} {T target : State} {m : MethodId} {c : Code} {pc : Nat} {L : Array Slot} {S : List Value} {v : Int32} {k : Fin 4} (pc' : Nat) (h : At T m c below) (hx : tb.exec = Jvm.exec) {bb : ByteArray} (hby : c.code = bb) (hd0 : decode bb pc = .ok (.iload_n k, 1)) (hl : L[k.val]? = some (.val (.int v))) (hp : pc + 1 = pc') (hr : Steps tb e below (T.setTop (mkF m pc' L (.int v :: S))) target) : Steps tb e below (T.setTop (mkF m pc L (S))) target := by
  have hd := hb hby hd0
  subst hp; exact XS.iloadN h hx rfl hd hl hr
theorem t_iload {tb : Tables} [Ours tb] {e : Env} {below : List Frame} {T target : State} {m : MethodId} {c : Code} {pc : Nat} {L : Array Slot} {S : List Value} {v : Int32} {k : Nat} (pc' : Nat) (h : At T m c below) (hx : tb.exec = Jvm.exec) {bb : ByteArray} (hby : c.code = bb) (hd0 : decode bb pc = .ok (.iload k, 2)) (hl : L[k]? = some (.val (.int v))) (hp : pc + 2 = pc') (hr : Steps tb e below (T.setTop (mkF m pc' L (.int v :: S))) target) : Steps tb e below (T.setTop (mkF m pc L (S))) target := by
  have hd := hb hby hd0
  subst hp; exact XS.iload h hx rfl hd hl hr
theorem t_aloadN {tb : Tables} [Ours tb] {e : Env} {below : List Frame} {T target : State} {m : MethodId} {c : Code} {pc : Nat} {L : Array Slot} {S : List Value} {v : Value} {k : Fin 4} (pc' : Nat) (h : At T m c below) (hx : tb.exec = Jvm.exec) {bb : ByteArray} (hby : c.code = bb) (hd0 : decode bb pc = .ok (.aload_n k, 1)) (hl : L[k.val]? = some (.val v)) (hv : v.isRef = true) (hp : pc + 1 = pc') (hr : Steps tb e below (T.setTop (mkF m pc' L (v :: S))) target) : Steps tb e below (T.setTop (mkF m pc L (S))) target := by
  have hd := hb hby hd0
  subst hp; exact XS.aloadN h hx rfl hd hl hv hr
theorem t_aload {tb : Tables} [Ours tb] {e : Env} {below : List Frame} {T target : State} {m : MethodId} {c : Code} {pc : Nat} {L : Array Slot} {S : List Value} {v : Value} {k : Nat} (pc' : Nat) (h : At T m c below) (hx : tb.exec = Jvm.exec) {bb : ByteArray} (hby : c.code = bb) (hd0 : decode bb pc = .ok (.aload k, 2)) (hl : L[k]? = some (.val v)) (hv : v.isRef = true) (hp : pc + 2 = pc') (hr : Steps tb e below (T.setTop (mkF m pc' L (v :: S))) target) : Steps tb e below (T.setTop (mkF m pc L (S))) target := by
  have hd := hb hby hd0
  subst hp; exact XS.aload h hx rfl hd hl hv hr
theorem t_istoreN {tb : Tables} [Ours tb] {e : Env} {below : List Frame} {T target : State} {m : MethodId} {c : Code} {pc : Nat} {L : Array Slot} {S : List Value} {v : Int32} {k : Fin 4} {L' : Array Slot} (pc' : Nat) (h : At T m c below) (hx : tb.exec = Jvm.exec) {bb : ByteArray} (hby : c.code = bb) (hd0 : decode bb pc = .ok (.istore_n k, 1)) (hl : storeLocals L k.val (.int v) = some L') (hp : pc + 1 = pc') (hr : Steps tb e below (T.setTop (mkF m pc' L' (S))) target) : Steps tb e below (T.setTop (mkF m pc L (.int v :: S))) target := by
  have hd := hb hby hd0
  subst hp; exact XS.istoreN h hx rfl hd rfl hl hr
theorem t_istore {tb : Tables} [Ours tb] {e : Env} {below : List Frame} {T target : State} {m : MethodId} {c : Code} {pc : Nat} {L : Array Slot} {S : List Value} {v : Int32} {k : Nat} {L' : Array Slot} (pc' : Nat) (h : At T m c below) (hx : tb.exec = Jvm.exec) {bb : ByteArray} (hby : c.code = bb) (hd0 : decode bb pc = .ok (.istore k, 2)) (hl : storeLocals L k (.int v) = some L') (hp : pc + 2 = pc') (hr : Steps tb e below (T.setTop (mkF m pc' L' (S))) target) : Steps tb e below (T.setTop (mkF m pc L (.int v :: S))) target := by
  have hd := hb hby hd0
  subst hp; exact XS.istore h hx rfl hd rfl hl hr
theorem t_astoreN {tb : Tables} [Ours tb] {e : Env} {below : List Frame} {T target : State} {m : MethodId} {c : Code} {pc : Nat} {L : Array Slot} {S : List Value} {v : Value} {k : Fin 4} {L' : Array Slot} (pc' : Nat) (h : At T m c below) (hx : tb.exec = Jvm.exec) {bb : ByteArray} (hby : c.code = bb) (hd0 : decode bb pc = .ok (.astore_n k, 1)) (hv : v.isRef = true) (hl : storeLocals L k.val v = some L') (hp : pc + 1 = pc') (hr : Steps tb e below (T.setTop (mkF m pc' L' (S))) target) : Steps tb e below (T.setTop (mkF m pc L (v :: S))) target := by
  have hd := hb hby hd0
  subst hp; exact XS.astoreN h hx rfl hd rfl hv hl hr
theorem t_astore {tb : Tables} [Ours tb] {e : Env} {below : List Frame} {T target : State} {m : MethodId} {c : Code} {pc : Nat} {L : Array Slot} {S : List Value} {v : Value} {k : Nat} {L' : Array Slot} (pc' : Nat) (h : At T m c below) (hx : tb.exec = Jvm.exec) {bb : ByteArray} (hby : c.code = bb) (hd0 : decode bb pc = .ok (.astore k, 2)) (hv : v.isRef = true) (hl : storeLocals L k v = some L') (hp : pc + 2 = pc') (hr : Steps tb e below (T.setTop (mkF m pc' L' (S))) target) : Steps tb e below (T.setTop (mkF m pc L (v :: S))) target := by
  have hd := hb hby hd0
  subst hp; exact XS.astore h hx rfl hd rfl hv hl hr
theorem t_iconst {tb : Tables} [Ours tb] {e : Env} {below : List Frame} {T target : State} {m : MethodId} {c : Code} {pc : Nat} {L : Array Slot} {S : List Value} {i : Int} {r : Int32} (pc' : Nat) (h : At T m c below) (hx : tb.exec = Jvm.exec) {bb : ByteArray} (hby : c.code = bb) (hd0 : decode bb pc = .ok (.iconst i, 1)) (he : Int32.ofInt i = r) (hp : pc + 1 = pc') (hr : Steps tb e below (T.setTop (mkF m pc' L (.int r :: S))) target) : Steps tb e below (T.setTop (mkF m pc L (S))) target := by
  have hd := hb hby hd0
  subst hp he; exact XS.iconst h hx rfl hd hr
theorem t_bipush {tb : Tables} [Ours tb] {e : Env} {below : List Frame} {T target : State} {m : MethodId} {c : Code} {pc : Nat} {L : Array Slot} {S : List Value} {i : Int} {r : Int32} (pc' : Nat) (h : At T m c below) (hx : tb.exec = Jvm.exec) {bb : ByteArray} (hby : c.code = bb) (hd0 : decode bb pc = .ok (.bipush i, 2)) (he : (Int8.ofInt i).toInt32 = r) (hp : pc + 2 = pc') (hr : Steps tb e below (T.setTop (mkF m pc' L (.int r :: S))) target) : Steps tb e below (T.setTop (mkF m pc L (S))) target := by
  have hd := hb hby hd0
  subst hp he; exact XS.bipush h hx rfl hd hr
theorem t_sipush {tb : Tables} [Ours tb] {e : Env} {below : List Frame} {T target : State} {m : MethodId} {c : Code} {pc : Nat} {L : Array Slot} {S : List Value} {i : Int} {r : Int32} (pc' : Nat) (h : At T m c below) (hx : tb.exec = Jvm.exec) {bb : ByteArray} (hby : c.code = bb) (hd0 : decode bb pc = .ok (.sipush i, 3)) (he : (Int16.ofInt i).toInt32 = r) (hp : pc + 3 = pc') (hr : Steps tb e below (T.setTop (mkF m pc' L (.int r :: S))) target) : Steps tb e below (T.setTop (mkF m pc L (S))) target := by
  have hd := hb hby hd0
  subst hp he; exact XS.sipush h hx rfl hd hr
theorem t_aconst_null {tb : Tables} [Ours tb] {e : Env} {below : List Frame} {T target : State} {m : MethodId} {c : Code} {pc : Nat} {L : Array Slot} {S : List Value}  (pc' : Nat) (h : At T m c below) (hx : tb.exec = Jvm.exec) {bb : ByteArray} (hby : c.code = bb) (hd0 : decode bb pc = .ok (.aconst_null, 1)) (hp : pc + 1 = pc') (hr : Steps tb e below (T.setTop (mkF m pc' L (.null :: S))) target) : Steps tb e below (T.setTop (mkF m pc L (S))) target := by
  have hd := hb hby hd0
  subst hp; exact XS.aconstNull h hx rfl hd hr
theorem t_iadd {tb : Tables} [Ours tb] {e : Env} {below : List Frame} {T target : State} {m : MethodId} {c : Code} {pc : Nat} {L : Array Slot} {S : List Value} {x y r : Int32} (pc' : Nat) (h : At T m c below) (hx : tb.exec = Jvm.exec) {bb : ByteArray} (hby : c.code = bb) (hd0 : decode bb pc = .ok (.iadd, 1)) (he : x + y = r) (hp : pc + 1 = pc') (hr : Steps tb e below (T.setTop (mkF m pc' L (.int r :: S))) target) : Steps tb e below (T.setTop (mkF m pc L (.int y :: .int x :: S))) target := by
  have hd := hb hby hd0
  subst hp he; exact XS.iadd h hx rfl hd rfl hr
theorem t_isub {tb : Tables} [Ours tb] {e : Env} {below : List Frame} {T target : State} {m : MethodId} {c : Code} {pc : Nat} {L : Array Slot} {S : List Value} {x y r : Int32} (pc' : Nat) (h : At T m c below) (hx : tb.exec = Jvm.exec) {bb : ByteArray} (hby : c.code = bb) (hd0 : decode bb pc = .ok (.isub, 1)) (he : x - y = r) (hp : pc + 1 = pc') (hr : Steps tb e below (T.setTop (mkF m pc' L (.int r :: S))) target) : Steps tb e below (T.setTop (mkF m pc L (.int y :: .int x :: S))) target := by
  have hd := hb hby hd0
  subst hp he; exact XS.isub h hx rfl hd rfl hr
theorem t_iand {tb : Tables} [Ours tb] {e : Env} {below : List Frame} {T target : State} {m : MethodId} {c : Code} {pc : Nat} {L : Array Slot} {S : List Value} {x y r : Int32} (pc' : Nat) (h : At T m c below) (hx : tb.exec = Jvm.exec) {bb : ByteArray} (hby : c.code = bb) (hd0 : decode bb pc = .ok (.iand, 1)) (he : x &&& y = r) (hp : pc + 1 = pc') (hr : Steps tb e below (T.setTop (mkF m pc' L (.int r :: S))) target) : Steps tb e below (T.setTop (mkF m pc L (.int y :: .int x :: S))) target := by
  have hd := hb hby hd0
  subst hp he; exact XS.iand h hx rfl hd rfl hr
theorem t_irem {tb : Tables} [Ours tb] {e : Env} {below : List Frame} {T target : State} {m : MethodId} {c : Code} {pc : Nat} {L : Array Slot} {S : List Value} {x y r : Int32} (pc' : Nat) (h : At T m c below) (hx : tb.exec = Jvm.exec) {bb : ByteArray} (hby : c.code = bb) (hd0 : decode bb pc = .ok (.irem, 1)) (hy : y ≠ 0) (he : x - (x / y) * y = r) (hp : pc + 1 = pc') (hr : Steps tb e below (T.setTop (mkF m pc' L (.int r :: S))) target) : Steps tb e below (T.setTop (mkF m pc L (.int y :: .int x :: S))) target := by
  have hd := hb hby hd0
  subst hp he; exact XS.irem h hx rfl hd rfl hy hr
theorem t_ishr {tb : Tables} [Ours tb] {e : Env} {below : List Frame} {T target : State} {m : MethodId} {c : Code} {pc : Nat} {L : Array Slot} {S : List Value} {x r : Int32} {y : Int32} (pc' : Nat) (h : At T m c below) (hx : tb.exec = Jvm.exec) {bb : ByteArray} (hby : c.code = bb) (hd0 : decode bb pc = .ok (.ishr, 1)) (he : x >>> (y &&& 31) = r) (hp : pc + 1 = pc') (hr : Steps tb e below (T.setTop (mkF m pc' L (.int r :: S))) target) : Steps tb e below (T.setTop (mkF m pc L (.int y :: .int x :: S))) target := by
  have hd := hb hby hd0
  subst hp he; exact XS.ishr h hx rfl hd rfl hr
theorem t_iushr {tb : Tables} [Ours tb] {e : Env} {below : List Frame} {T target : State} {m : MethodId} {c : Code} {pc : Nat} {L : Array Slot} {S : List Value} {x r : Int32} {y : Int32} (pc' : Nat) (h : At T m c below) (hx : tb.exec = Jvm.exec) {bb : ByteArray} (hby : c.code = bb) (hd0 : decode bb pc = .ok (.iushr, 1)) (he : (x.toUInt32 >>> (y &&& 31).toUInt32).toInt32 = r) (hp : pc + 1 = pc') (hr : Steps tb e below (T.setTop (mkF m pc' L (.int r :: S))) target) : Steps tb e below (T.setTop (mkF m pc L (.int y :: .int x :: S))) target := by
  have hd := hb hby hd0
  subst hp he; exact XS.iushr h hx rfl hd rfl hr
theorem t_i2b {tb : Tables} [Ours tb] {e : Env} {below : List Frame} {T target : State} {m : MethodId} {c : Code} {pc : Nat} {L : Array Slot} {S : List Value} {x : Int32} {r : Int32} (pc' : Nat) (h : At T m c below) (hx : tb.exec = Jvm.exec) {bb : ByteArray} (hby : c.code = bb) (hd0 : decode bb pc = .ok (.i2b, 1)) (he : x.toInt8.toInt32 = r) (hp : pc + 1 = pc') (hr : Steps tb e below (T.setTop (mkF m pc' L (.int r :: S))) target) : Steps tb e below (T.setTop (mkF m pc L (.int x :: S))) target := by
  have hd := hb hby hd0
  subst hp he; exact XS.i2b h hx rfl hd rfl hr
theorem t_i2c {tb : Tables} [Ours tb] {e : Env} {below : List Frame} {T target : State} {m : MethodId} {c : Code} {pc : Nat} {L : Array Slot} {S : List Value} {x : Int32} {r : Int32} (pc' : Nat) (h : At T m c below) (hx : tb.exec = Jvm.exec) {bb : ByteArray} (hby : c.code = bb) (hd0 : decode bb pc = .ok (.i2c, 1)) (he : x.toUInt32.toUInt16.toUInt32.toInt32 = r) (hp : pc + 1 = pc') (hr : Steps tb e below (T.setTop (mkF m pc' L (.int r :: S))) target) : Steps tb e below (T.setTop (mkF m pc L (.int x :: S))) target := by
  have hd := hb hby hd0
  subst hp he; exact XS.i2c h hx rfl hd rfl hr
theorem t_dup {tb : Tables} [Ours tb] {e : Env} {below : List Frame} {T target : State} {m : MethodId} {c : Code} {pc : Nat} {L : Array Slot} {S : List Value} {x : Value} (pc' : Nat) (h : At T m c below) (hx : tb.exec = Jvm.exec) {bb : ByteArray} (hby : c.code = bb) (hd0 : decode bb pc = .ok (.dup, 1)) (hc : x.category = 1) (hp : pc + 1 = pc') (hr : Steps tb e below (T.setTop (mkF m pc' L (x :: x :: S))) target) : Steps tb e below (T.setTop (mkF m pc L (x :: S))) target := by
  have hd := hb hby hd0
  subst hp; exact XS.dup h hx rfl hd rfl hc hr
theorem t_iinc {tb : Tables} [Ours tb] {e : Env} {below : List Frame} {T target : State} {m : MethodId} {c : Code} {pc : Nat} {L : Array Slot} {S : List Value} {k : Nat} {cst : Int} {x : Int32} {L' : Array Slot} (pc' : Nat) (h : At T m c below) (hx : tb.exec = Jvm.exec) {bb : ByteArray} (hby : c.code = bb) (hd0 : decode bb pc = .ok (.iinc k cst, 3)) (hl : L[k]? = some (.val (.int x))) (hl' : storeLocals L k (.int (x + Int32.ofInt cst)) = some L') (hp : pc + 3 = pc') (hr : Steps tb e below (T.setTop (mkF m pc' L' (S))) target) : Steps tb e below (T.setTop (mkF m pc L (S))) target := by
  have hd := hb hby hd0
  subst hp; exact XS.iinc h hx rfl hd hl hl' hr
theorem t_goto {tb : Tables} [Ours tb] {e : Env} {below : List Frame} {T target : State} {m : MethodId} {c : Code} {pc : Nat} {L : Array Slot} {S : List Value} {o : Int} (pc' : Nat) (h : At T m c below) (hx : tb.exec = Jvm.exec) {bb : ByteArray} (hby : c.code = bb) (hd0 : decode bb pc = .ok (.goto o, 3)) (ho : 0 ≤ (pc : Int) + o) (hp : ((pc : Int) + o).toNat = pc') (hr : Steps tb e below (T.setTop (mkF m pc' L (S))) target) : Steps tb e below (T.setTop (mkF m pc L (S))) target := by
  have hd := hb hby hd0
  exact XS.goto h hx rfl rfl hd ho hp hr
theorem t_ifYes {tb : Tables} [Ours tb] {e : Env} {below : List Frame} {T target : State} {m : MethodId} {c : Code} {pc : Nat} {L : Array Slot} {S : List Value} {cd : ClassFile.Cond} {x : Int32} {o : Int} (pc' : Nat) (h : At T m c below) (hx : tb.exec = Jvm.exec) {bb : ByteArray} (hby : c.code = bb) (hd0 : decode bb pc = .ok (.ifCond cd o, 3)) (hc : ifCond.holds cd x = true) (ho : 0 ≤ (pc : Int) + o) (hp : ((pc : Int) + o).toNat = pc') (hr : Steps tb e below (T.setTop (mkF m pc' L (S))) target) : Steps tb e below (T.setTop (mkF m pc L (.int x :: S))) target := by
  have hd := hb hby hd0
  exact XS.ifYes h hx rfl rfl hd rfl hc ho hp hr
theorem t_ifNo {tb : Tables} [Ours tb] {e : Env} {below : List Frame} {T target : State} {m : MethodId} {c : Code} {pc : Nat} {L : Array Slot} {S : List Value} {cd : ClassFile.Cond} {x : Int32} {o : Int} (pc' : Nat) (h : At T m c below) (hx : tb.exec = Jvm.exec) {bb : ByteArray} (hby : c.code = bb) (hd0 : decode bb pc = .ok (.ifCond cd o, 3)) (hc : ifCond.holds cd x = false) (hp : pc + 3 = pc') (hr : Steps tb e below (T.setTop (mkF m pc' L (S))) target) : Steps tb e below (T.setTop (mkF m pc L (.int x :: S))) target := by
  have hd := hb hby hd0
  subst hp; exact XS.ifNo h hx rfl hd rfl hc hr
theorem t_icmpYes {tb : Tables} [Ours tb] {e : Env} {below : List Frame} {T target : State} {m : MethodId} {c : Code} {pc : Nat} {L : Array Slot} {S : List Value} {cd : ClassFile.Cond} {x y : Int32} {o : Int} (pc' : Nat) (h : At T m c below) (hx : tb.exec = Jvm.exec) {bb : ByteArray} (hby : c.code = bb) (hd0 : decode bb pc = .ok (.if_icmp cd o, 3)) (hc : if_icmp.holds cd x y = true) (ho : 0 ≤ (pc : Int) + o) (hp : ((pc : Int) + o).toNat = pc') (hr : Steps tb e below (T.setTop (mkF m pc' L (S))) target) : Steps tb e below (T.setTop (mkF m pc L (.int y :: .int x :: S))) target := by
  have hd := hb hby hd0
  exact XS.icmpYes h hx rfl rfl hd rfl hc ho hp hr
theorem t_icmpNo {tb : Tables} [Ours tb] {e : Env} {below : List Frame} {T target : State} {m : MethodId} {c : Code} {pc : Nat} {L : Array Slot} {S : List Value} {cd : ClassFile.Cond} {x y : Int32} {o : Int} (pc' : Nat) (h : At T m c below) (hx : tb.exec = Jvm.exec) {bb : ByteArray} (hby : c.code = bb) (hd0 : decode bb pc = .ok (.if_icmp cd o, 3)) (hc : if_icmp.holds cd x y = false) (hp : pc + 3 = pc') (hr : Steps tb e below (T.setTop (mkF m pc' L (S))) target) : Steps tb e below (T.setTop (mkF m pc L (.int y :: .int x :: S))) target := by
  have hd := hb hby hd0
  subst hp; exact XS.icmpNo h hx rfl hd rfl hc hr
theorem t_ifnullYes {tb : Tables} [Ours tb] {e : Env} {below : List Frame} {T target : State} {m : MethodId} {c : Code} {pc : Nat} {L : Array Slot} {S : List Value} {o : Int} (pc' : Nat) (h : At T m c below) (hx : tb.exec = Jvm.exec) {bb : ByteArray} (hby : c.code = bb) (hd0 : decode bb pc = .ok (.ifnull o, 3)) (ho : 0 ≤ (pc : Int) + o) (hp : ((pc : Int) + o).toNat = pc') (hr : Steps tb e below (T.setTop (mkF m pc' L (S))) target) : Steps tb e below (T.setTop (mkF m pc L (.null :: S))) target := by
  have hd := hb hby hd0
  exact XS.ifnullYes h hx rfl rfl hd rfl ho hp hr
theorem t_ifnullNo {tb : Tables} [Ours tb] {e : Env} {below : List Frame} {T target : State} {m : MethodId} {c : Code} {pc : Nat} {L : Array Slot} {S : List Value} {b : Addr} {o : Int} (pc' : Nat) (h : At T m c below) (hx : tb.exec = Jvm.exec) {bb : ByteArray} (hby : c.code = bb) (hd0 : decode bb pc = .ok (.ifnull o, 3)) (hp : pc + 3 = pc') (hr : Steps tb e below (T.setTop (mkF m pc' L (S))) target) : Steps tb e below (T.setTop (mkF m pc L (.ref b :: S))) target := by
  have hd := hb hby hd0
  subst hp; exact XS.ifnullNo h hx rfl hd rfl hr
theorem t_ifnonnullYes {tb : Tables} [Ours tb] {e : Env} {below : List Frame} {T target : State} {m : MethodId} {c : Code} {pc : Nat} {L : Array Slot} {S : List Value} {b : Addr} {o : Int} (pc' : Nat) (h : At T m c below) (hx : tb.exec = Jvm.exec) {bb : ByteArray} (hby : c.code = bb) (hd0 : decode bb pc = .ok (.ifnonnull o, 3)) (ho : 0 ≤ (pc : Int) + o) (hp : ((pc : Int) + o).toNat = pc') (hr : Steps tb e below (T.setTop (mkF m pc' L (S))) target) : Steps tb e below (T.setTop (mkF m pc L (.ref b :: S))) target := by
  have hd := hb hby hd0
  exact XS.ifnonnullYes h hx rfl rfl hd rfl ho hp hr
theorem t_ifnonnullNo {tb : Tables} [Ours tb] {e : Env} {below : List Frame} {T target : State} {m : MethodId} {c : Code} {pc : Nat} {L : Array Slot} {S : List Value} {o : Int} (pc' : Nat) (h : At T m c below) (hx : tb.exec = Jvm.exec) {bb : ByteArray} (hby : c.code = bb) (hd0 : decode bb pc = .ok (.ifnonnull o, 3)) (hp : pc + 3 = pc') (hr : Steps tb e below (T.setTop (mkF m pc' L (S))) target) : Steps tb e below (T.setTop (mkF m pc L (.null :: S))) target := by
  have hd := hb hby hd0
  subst hp; exact XS.ifnonnullNo h hx rfl hd rfl hr
theorem own_arlen {p : Program} {l : Launch} {e : Env} {R : Room} {s : State} {m : MethodId} {args : Array Value} {below : List Frame} {meth : Method} {c : Code} {T : State} {locs : List Loc} {cells slots : Nat} {Z : State} {h : Heap} {a : Addr} {k : ClassId} {z : Int32} {vs : List Value} {dv : Value} {pc pc' : Nat} {Ls : Array Slot} {S : List Value} {ty : FieldType} {target : State} (X : Stand p l e R s m args below meth c T locs cells slots) (hx : p.tables.exec = Jvm.exec) (hZ : Z.Warmed39 s.vm) (eT : T.heap = h) (F : Arv Z h a k ty z vs dv) (hd : decode c.code pc = .ok (.arraylength, 1)) (hp : pc + 1 = pc') (hr : Steps p.tables e below (T.setTop (mkF m pc' Ls (.int z :: S))) target) : Steps p.tables e below (T.setTop (mkF m pc Ls (.ref a :: S))) target := by
  obtain ⟨cl, A, -, q, n, -, -⟩ := F
  subst hp
  refine X.arraylength hx (by rw [eT]; exact A.1) (State.isArrayOf_alike hZ.alike A.2.1) (g := mkF m pc Ls (.ref a :: S)) rfl rfl hd _ ?_
  rw [len_of q n]; exact hr
theorem own_aldI {p : Program} {l : Launch} {e : Env} {R : Room} {s : State} {m : MethodId} {args : Array Value} {below : List Frame} {meth : Method} {c : Code} {T : State} {locs : List Loc} {cells slots : Nat} {Z : State} {h : Heap} {a : Addr} {k : ClassId} {z j : Int32} {vs : List Value} {v dv : Value} {pc pc' : Nat} {Ls : Array Slot} {S : List Value} {target : State} (X : Stand p l e R s m args below meth c T locs cells slots) (hx : p.tables.exec = Jvm.exec) (hZ : Z.Warmed39 s.vm) (eT : T.heap = h) (F : Arv Z h a k .int z vs dv) (hj : ¬ j < 0 ∧ j < z) (hv : vs.getD j.toNatClampNeg dv = v) (hd : decode c.code pc = .ok (.iaload, 1)) (hp : pc + 1 = pc') (hr : Steps p.tables e below (T.setTop (mkF m pc' Ls (v :: S))) target) : Steps p.tables e below (T.setTop (mkF m pc Ls (.int j :: .ref a :: S))) target := by
  obtain ⟨cl, A, -, q, n, H, -⟩ := F
  subst hp
  have hin := inb_of q hj
  exact X.iaload hx (by rw [eT]; exact A.1) (State.isArrayOf_alike hZ.alike A.2.1) A.2.2 hin (H.at hin hv) (g := mkF m pc Ls (.int j :: .ref a :: S)) rfl rfl hd _ hr
theorem own_aldC {p : Program} {l : Launch} {e : Env} {R : Room} {s : State} {m : MethodId} {args : Array Value} {below : List Frame} {meth : Method} {c : Code} {T : State} {locs : List Loc} {cells slots : Nat} {Z : State} {h : Heap} {a : Addr} {k : ClassId} {z j : Int32} {vs : List Value} {v dv : Value} {pc pc' : Nat} {Ls : Array Slot} {S : List Value} {target : State} (X : Stand p l e R s m args below meth c T locs cells slots) (hx : p.tables.exec = Jvm.exec) (hZ : Z.Warmed39 s.vm) (eT : T.heap = h) (F : Arv Z h a k .char z vs dv) (hj : ¬ j < 0 ∧ j < z) (hv : vs.getD j.toNatClampNeg dv = v) (hd : decode c.code pc = .ok (.caload, 1)) (hp : pc + 1 = pc') (hr : Steps p.tables e below (T.setTop (mkF m pc' Ls (v :: S))) target) : Steps p.tables e below (T.setTop (mkF m pc Ls (.int j :: .ref a :: S))) target := by
  obtain ⟨cl, A, -, q, n, H, -⟩ := F
  subst hp
  have hin := inb_of q hj
  exact X.caload hx (by rw [eT]; exact A.1) (State.isArrayOf_alike hZ.alike A.2.1) A.2.2 hin (H.at hin hv) (g := mkF m pc Ls (.int j :: .ref a :: S)) rfl rfl hd _ hr
theorem own_aldB {p : Program} {l : Launch} {e : Env} {R : Room} {s : State} {m : MethodId} {args : Array Value} {below : List Frame} {meth : Method} {c : Code} {T : State} {locs : List Loc} {cells slots : Nat} {Z : State} {h : Heap} {a : Addr} {k : ClassId} {z j : Int32} {vs : List Value} {v dv : Value} {pc pc' : Nat} {Ls : Array Slot} {S : List Value} {target : State} (X : Stand p l e R s m args below meth c T locs cells slots) (hx : p.tables.exec = Jvm.exec) (hZ : Z.Warmed39 s.vm) (eT : T.heap = h) (F : Arv Z h a k .byte z vs dv) (hj : ¬ j < 0 ∧ j < z) (hv : vs.getD j.toNatClampNeg dv = v) (hd : decode c.code pc = .ok (.baload, 1)) (hp : pc + 1 = pc') (hr : Steps p.tables e below (T.setTop (mkF m pc' Ls (v :: S))) target) : Steps p.tables e below (T.setTop (mkF m pc Ls (.int j :: .ref a :: S))) target := by
  obtain ⟨cl, A, -, q, n, H, -⟩ := F
  subst hp
  have hin := inb_of q hj
  exact X.baloadBytes hx (by rw [eT]; exact A.1) (State.isArrayOf_alike hZ.alike A.2.1) A.2.2 hin (H.at hin hv) (g := mkF m pc Ls (.int j :: .ref a :: S)) rfl rfl hd _ hr
theorem own_astC {p : Program} {l : Launch} {e : Env} {R : Room} {s : State} {m : MethodId} {args : Array Value} {below : List Frame} {meth : Method} {c : Code} {T : State} {locs : List Loc} {cells slots : Nat} {Z : State} {h : Heap} {a : Addr} {k : ClassId} {z j : Int32} {vs : List Value} {dv : Value} {S : List Value} {x : Int32} (X : Stand p l e R s m args below meth c T locs cells slots) (hx : p.tables.exec = Jvm.exec) (hZ : Z.Warmed39 s.vm) (eT : T.heap = h) (F : Arv Z h a k .char z vs dv) (hj : ¬ j < 0 ∧ j < z) (i : Nat) (hi : j.toNatClampNeg = i) (hi2 : i < vs.length) {g : JFrame} (hg : g.method = m) (hs : g.stack = .int x :: .int j :: .ref a :: S) (hd : decode c.code g.pc = .ok (.castore, 1)) :
    ∃ T' h', Stand p l e R s m args below meth c T' (locs ++ [⟨a, j.toNatClampNeg⟩]) cells slots ∧ T'.heap = h' ∧ Wr h h' a j.toNatClampNeg (.int (nar .char x)) ∧ Arv Z h' a k .char z (vs.set i (.int (nar .char x))) dv ∧ ∀ target, Steps p.tables e below (T'.setTop { g with pc := g.pc + 1, stack := S }) target → Steps p.tables e below (T.setTop g) target := by
  obtain ⟨cl, A, q1, q, n, H, G⟩ := F
  obtain ⟨T', h', X', e', W, st⟩ := stC X hx hZ eT A (inb_of q hj) hg hs hd
  exact ⟨T', h', X', e', W, Arv.set A q1 q n H G (fits_nar_char x) W i hi hi2, st⟩
theorem own_astB {p : Program} {l : Launch} {e : Env} {R : Room} {s : State} {m : MethodId} {args : Array Value} {below : List Frame} {meth : Method} {c : Code} {T : State} {locs : List Loc} {cells slots : Nat} {Z : State} {h : Heap} {a : Addr} {k : ClassId} {z j : Int32} {vs : List Value} {dv : Value} {S : List Value} {x : Int32} (X : Stand p l e R s m args below meth c T locs cells slots) (hx : p.tables.exec = Jvm.exec) (hZ : Z.Warmed39 s.vm) (eT : T.heap = h) (F : Arv Z h a k .byte z vs dv) (hj : ¬ j < 0 ∧ j < z) (i : Nat) (hi : j.toNatClampNeg = i) (hi2 : i < vs.length) {g : JFrame} (hg : g.method = m) (hs : g.stack = .int x :: .int j :: .ref a :: S) (hd : decode c.code g.pc = .ok (.bastore, 1)) :
    ∃ T' h', Stand p l e R s m args below meth c T' (locs ++ [⟨a, j.toNatClampNeg⟩]) cells slots ∧ T'.heap = h' ∧ Wr h h' a j.toNatClampNeg (.int (nar .byte x)) ∧ Arv Z h' a k .byte z (vs.set i (.int (nar .byte x))) dv ∧ ∀ target, Steps p.tables e below (T'.setTop { g with pc := g.pc + 1, stack := S }) target → Steps p.tables e below (T.setTop g) target := by
  obtain ⟨cl, A, q1, q, n, H, G⟩ := F
  obtain ⟨T', h', X', e', W, st⟩ := stB X hx hZ eT A (inb_of q hj) hg hs hd
  exact ⟨T', h', X', e', W, Arv.set A q1 q n H G (fits_nar_byte x) W i hi hi2, st⟩
set_option maxRecDepth 65536
set_option maxHeartbeats 40000000
abbrev HW (Z : State) (a0 : Array Value) : Prop := ∀ d ∈ tables_1, d.before a0 Z = true
theorem ow {Z : State} {a0 : Array Value} {d : Jvm.Cond} (i : Nat) (hw : HW Z a0) (q : tables_1[i]? = some d) : d.before a0 Z = true := hw d (List.mem_of_getElem? q)
abbrev z0 : Value := .int 0
abbrev SCS (Z : State) (z : Int32) : Prop := Sta Z Z.heap "java/lang/String" "COMPACT_STRINGS" "Z" (.int z)
variable {Z : State} {a0 : Array Value}
theorem nwR {a : Addr} {i i' : Nat} {L : List (Addr × Nat)} (q : i ≠ i') (r : (a, i) ∉ L) : (a, i) ∉ (a, i') :: L := nwS (Or.inr q) r
theorem nwL {a b : Addr} {i i' : Nat} {L : List (Addr × Nat)} (q : a ≠ b) (r : (a, i) ∉ L) : (a, i) ∉ (b, i') :: L := nwS (Or.inl q) r
theorem naG {n : Nat} {x : Addr × Nat} {L : List (Addr × Nat)} (q : n ≤ x.1) (r : ∀ w ∈ L, n ≤ w.1) : ∀ w ∈ x :: L, n ≤ w.1 := naS (P := fun w => n ≤ w.1) q r
abbrev vr (a : Addr) : Slot := .val (.ref a)
abbrev vi (z : Int32) : Slot := .val (.int z)
abbrev Sa0 (Z : State) (v : Value) : Prop := Sta Z Z.heap "java/util/ArrayList" "DEFAULTCAPACITY_EMPTY_ELEMENTDATA" "[Ljava/lang/Object;" v
abbrev Sa1 (Z : State) (v : Value) : Prop := Sta Z Z.heap "java/util/ImmutableCollections" "EMPTY_LIST" "Ljava/util/ImmutableCollections$ListN;" v
abbrev Sa2 (Z : State) (v : Value) : Prop := Sta Z Z.heap "com/example/graft_container/graftcontainer/BeanDefinition$Autowire" "NO" "Lcom/example/graft_container/graftcontainer/BeanDefinition$Autowire;" v
abbrev Sa3 (Z : State) (v : Value) : Prop := Sta Z Z.heap "java/lang/CharacterDataLatin1" "A" "[I" v
abbrev Sa4 (Z : State) (v : Value) : Prop := Sta Z Z.heap "java/lang/CharacterDataLatin1" "instance" "Ljava/lang/CharacterDataLatin1;" v
theorem own_m255a (x : Int32) : ¬ ((x &&& (255 : Int32)) < (0 : Int32)) := by
  have h := c_mask x 255 8 (by decide) (by decide)
  rw [Int32.lt_iff_toInt_lt, h]; show ¬ _ < (0 : Int); omega
theorem own_m255b (x : Int32) : ¬ ((255 : Int32) < (x &&& (255 : Int32))) := by
  have h := c_mask x 255 8 (by decide) (by decide)
  rw [Int32.lt_iff_toInt_lt, h]; show ¬ (255 : Int) < _; omega
theorem own_narb (x : Int32) : nar .byte (x.toInt8.toInt32) = x.toInt8.toInt32 := by
  show (x.toInt8.toInt32).toInt8.toInt32 = _
  simp
theorem own_c2c {x : Int32} (h1 : ¬ (x < (0 : Int32))) (h2 : ¬ ((255 : Int32) < x)) : x.toUInt32.toUInt16.toUInt32.toInt32 = x := by
  have h := c_i2c x
  rw [Int32.lt_iff_toInt_lt] at h1 h2
  have e1 : (0 : Int32).toInt = 0 := rfl
  have e2 : (255 : Int32).toInt = 255 := rfl
  apply Int32.toInt_inj.mp; omega
theorem own_b2c {x : Int32} (h1 : ¬ (x < (0 : Int32))) (h2 : ¬ ((255 : Int32) < x)) : (x.toInt8.toInt32 &&& (255 : Int32)) = x := by
  have h := c_mask (x.toInt8.toInt32) 255 8 (by decide) (by decide)
  have q := c_i2b x
  rw [Int32.lt_iff_toInt_lt] at h1 h2
  have e1 : (0 : Int32).toInt = 0 := rfl
  have e2 : (255 : Int32).toInt = 255 := rfl
  apply Int32.toInt_inj.mp; rw [h]; omega
theorem own_and3 (x : Int32) : x &&& 3 = 0 ∨ x &&& 3 = 1 ∨ x &&& 3 = 2 ∨ x &&& 3 = 3 := by
  have h := c_mask x 3 2 (by decide) (by decide)
  have h2 : (x &&& 3).toInt = (0 : Int32).toInt ∨ (x &&& 3).toInt = (1 : Int32).toInt ∨ (x &&& 3).toInt = (2 : Int32).toInt ∨ (x &&& 3).toInt = (3 : Int32).toInt := by
    show (x &&& 3).toInt = 0 ∨ (x &&& 3).toInt = 1 ∨ (x &&& 3).toInt = 2 ∨ (x &&& 3).toInt = 3
    omega
  rcases h2 with q | q | q | q
  · exact Or.inl (Int32.toInt_inj.mp q)
  · exact Or.inr (Or.inl (Int32.toInt_inj.mp q))
  · exact Or.inr (Or.inr (Or.inl (Int32.toInt_inj.mp q)))
  · exact Or.inr (Or.inr (Or.inr (Int32.toInt_inj.mp q)))
theorem own_rem3 (x : Int32) : ((x &&& 2147483647) - ((x &&& 2147483647) / 3) * 3) = 0 ∨ ((x &&& 2147483647) - ((x &&& 2147483647) / 3) * 3) = 1 ∨ ((x &&& 2147483647) - ((x &&& 2147483647) / 3) * 3) = 2 := by
  generalize hy : x &&& 2147483647 = y
  have h0 : 0 ≤ y.toInt := by rw [← hy]; exact (c_and x 2147483647 (by decide)).1
  have hd := (c_idiv y 3 3 (by decide) (by decide)).1 h0
  have h1 := c_isub y (y / 3 * 3)
  have h2 := c_imul (y / 3) 3
  have r := rng32 y
  have r2 := rng32 (y / 3 * 3)
  have r3 := rng32 (y - y / 3 * 3)
  have e4 : (3 : Int32).toInt = 3 := rfl
  rw [e4] at h2
  have h3 : (y - y / 3 * 3).toInt = 0 ∨ (y - y / 3 * 3).toInt = 1 ∨ (y - y / 3 * 3).toInt = 2 := by omega
  rcases h3 with q | q | q
  · exact Or.inl (Int32.toInt_inj.mp q)
  · exact Or.inr (Or.inl (Int32.toInt_inj.mp q))
  · exact Or.inr (Or.inr (Int32.toInt_inj.mp q))
theorem own_impP {l : Launch} {Z : State} {y : MethodName} {b : ByteArray} {ml : Nat} {r : Option FieldType} {ws : List Jvm.Cond} {rm : Room} {as' : Array Value} {h0 : Heap} {Q Q' : Option Value → Heap → List Loc → Prop} (hM : MF l Z y b ml r ws rm as' h0 Q) (hq : ∀ v h L, Q v h L → Q' v h L) : MF l Z y b ml r ws rm as' h0 Q' :=
  MetFree.mono hM (fun _ _ h => h) (fun _ _ _ _ _ h => h) (fun _ _ _ _ _ ⟨v, L, e, q, r⟩ => ⟨v, L, e, hq _ _ _ q, r⟩)
theorem own_bodyM {l : Launch} {Z : State} {y : MethodName} {bytes : ByteArray} {maxL : Nat} {ret : Option FieldType} {ws : List Jvm.Cond} {rm : Room} {as' : Array Value} {h0 : Heap} {Q : Option Value → Heap → List Loc → Prop} {k n k' n' : Nat} {L0 : Array Slot} (hp : plainFor y = true) (hef : ∀ m, entryFrame m as' maxL = mkF m 0 L0 []) (hk : k ≤ k') (hn : n ≤ n')
    (H : ∀ (p : Program) (e : Env) (s : State) (m : MethodId) (below : List Frame) (meth : Method) (c : Code) (s₁ : State), p.tables.exec = Jvm.exec → c.code = bytes → c.maxLocals = maxL → s.vm.findClass y.cls = some m.cls → meth.name = y.name → meth.sig.returnType = ret → Z.Warmed39 s.vm → s.heap = h0 → s₁.heap = h0 → Stand p l e rm s m as' below meth c s₁ [] 0 0 →
      ∃ (T : State) (L : List Loc) (v : Option Value), Stand p l e rm s m as' below meth c T L k n ∧ (ret = none → v = none) ∧ Q v T.heap L ∧ ∀ fs, (∀ (f : JFrame) (acts : List Action), f.method = m → f.locked = none → f.entered = [] → (doReturn e (T.setTop f) acts v).1 = T.setFrames fs) → Steps p.tables e below (s₁.setTop (mkF m 0 L0 [])) (T.setFrames fs)) :
    MetFree l y (head1 (Jvm.Cond.code y bytes maxL ret :: ws) rm) (fun a U => a = as' ∧ Z.Warmed39 U.vm ∧ U.heap = h0) (fun _ _ _ _ _ => True) (fun _ U o U' => ∃ v L, o = .returned v ∧ Q v U'.heap L ∧ FrameEnd U o U' L k' n') := by
  refine MetFree.of_bodySF hp hisR ?_
  intro p e s m args below meth c s₁ Bd hml0 hP hK
  obtain ⟨rfl, hZ, hh⟩ := hP
  have e0 : s₁.heap = h0 := by rw [← hh, Bd.state]; rfl
  have hnm := (name_of_methodNamed Bd.named Bd.method).1
  obtain ⟨T, L, v, X, hv, hQ, st⟩ := H p e s m below meth c s₁ Bd.exec Bd.bytes hml0 (findClass_of_methodNamed Bd.named) hnm Bd.returns hZ hh e0 (Stand.of_body Bd)
  obtain ⟨fs, hr, hrun, hended, hW, hsame⟩ := X.leave (v := v) (fun h => hv (Bd.returns.symm.trans h)) Bd.notSynchronized
  refine ⟨_, _, castTop (hef m) (st fs hr), hrun, hended, v, L, rfl, ?_, ⟨_, rfl⟩, hW, hsame.mono hk hn⟩
  exact hQ
def OMir (Z : State) (C : String) (m : Addr) : Prop := ∃ (c : ClassId) (k : Class), Z.vm.findClass C = some c ∧ Z.vm.classes[c]? = some k ∧ k.mirror = some m
section Cls
variable {p : Program} {l : Launch} {e : Env} {R : Room} {s : State} {m : MethodId} {args : Array Value} {below : List Frame} {meth : Method} {c : Code} {T : State} {locs : List Loc} {cells slots : Nat} {Z : State} {a0 : Array Value} {h : Heap} {a : Addr} {C : String}
theorem own_mvI (hZ : Z.Warmed39 s.vm) {r o n d : String} (w : (Cond.interfaceMethod r o n d).before a0 Z = true) : (Cond.interfaceMethod r o n d).before args s = true := Jvm.Free.ULB.iface_rides hZ.alike w
theorem own_mvS (hZ : Z.Warmed39 s.vm) {r o n d : String} (w : (Cond.sameMethod r o n d).before a0 Z = true) (h : r ≠ "java/lang/invoke/MethodHandle" ∧ r ≠ "java/lang/invoke/VarHandle") : (Cond.sameMethod r o n d).before args s = true := by
  have h1 := Cond.sameMethod_setVm hZ.alike h w
  rw [Cond.onTables_vm (A' := args) (U' := s) s.vm _ rfl] at h1
  exact h1
theorem own_gclsI (X : Stand p l e R s m args below meth c T locs cells slots) (hx : p.tables.exec = Jvm.exec) (hZ : Z.Warmed39 s.vm) {own I : String} {index count : Nat} (hown : s.vm.findClass own = some m.cls)
    (w1 : (Cond.methodLink own index ⟨I, "getClass", "()Ljava/lang/Class;"⟩).before a0 Z = true) (w2 : (Cond.declares ⟨"java/lang/Object", "getClass", "()Ljava/lang/Class;"⟩).before a0 Z = true) (w3 : (Cond.interfaceMethod I "java/lang/Object" "getClass" "()Ljava/lang/Class;").before args s = true) (w4 : (Cond.selects C ⟨I, "getClass", "()Ljava/lang/Class;"⟩ ⟨"java/lang/Object", "getClass", "()Ljava/lang/Class;"⟩).before a0 Z = true)
    (w5 : (Cond.instanceMethod ⟨"java/lang/Object", "getClass", "()Ljava/lang/Class;"⟩).before a0 Z = true) (w6 : (Cond.publicMethod ⟨"java/lang/Object", "getClass", "()Ljava/lang/Class;"⟩).before a0 Z = true) (w7 : (Cond.unhidden C "getClass" "()Ljava/lang/Class;").before a0 Z = true) (w8 : (Cond.castable C I).before a0 Z = true) (w9 : (Cond.native ⟨"java/lang/Object", "getClass", "()Ljava/lang/Class;"⟩).before a0 Z = true)
    (h1 : I ≠ "java/lang/invoke/MethodHandle" ∧ I ≠ "java/lang/invoke/VarHandle") (h2 : I ≠ "java/lang/Object") (eT : T.heap = h) (E : Exa Z h a C) {mr : Addr} (M : OMir Z C mr)
    {g : JFrame} (hg : g.method = m) (hsize : g.locals.size = c.maxLocals) {rest : List Value} (hs : g.stack = .ref a :: rest) (hd : decode c.code g.pc = .ok (.invokeinterface index count, 5)) (hf : 1 ≤ R.frames) {W : Nat} (hW : 2 * g.monitorRoom + (rest.map fun v => v.category).sum ≤ W) (hl : W + (nativeFrameWords "java/lang/Object" "getClass" 1 + 11) ≤ R.locals) :
    ∃ T', Stand p l e R s m args below meth c T' locs cells slots ∧ T'.heap = h ∧ ∀ target, Steps p.tables e below (T'.setTop { g with pc := g.pc + 5, stack := .ref mr :: rest }) target → Steps p.tables e below (T.setTop g) target := by
  obtain ⟨cB, kB, i1, i2, i3⟩ := isOf hZ eT E
  obtain ⟨cc, kc, m1, m2, m3⟩ := M
  have i1' := i1
  rw [hZ.alike.findClass] at i1'
  cases i1'.symm.trans m1
  obtain ⟨k', q, ek⟩ := hZ.alike.2.2 _ _ m2
  obtain ⟨vm', X', st⟩ := X.getClassOfI (xi := ⟨I, "getClass", "()Ljava/lang/Class;"⟩) hx hown (mvT hZ w1) (mvT hZ w2) w3 (mvT hZ w4) (mvT hZ w5) (mvT hZ w6) (mvT hZ w7) (mvT hZ w8) (mvT hZ w9) h1 h2 rfl rfl i1 q i3 (by rw [ek]; exact m3) hg hsize hs hd hf (by omega)
  exact ⟨_, X', eT, st⟩
theorem own_ldcM (X : Stand p l e R s m args below meth c T locs cells slots) (hx : p.tables.exec = Jvm.exec) (hZ : Z.Warmed39 s.vm) {own : String} {index : Nat} (hown : s.vm.findClass own = some m.cls) (w : (Cond.classLink own index C).before a0 Z = true) {mr : Addr} (M : OMir Z C mr) (eT : T.heap = h)
    {g : JFrame} (hg : g.method = m) (hd : decode c.code g.pc = .ok (.ldc index, 2)) : ∃ T', Stand p l e R s m args below meth c T' locs cells slots ∧ T'.heap = h ∧ ∀ target, Steps p.tables e below (T'.setTop { g with pc := g.pc + 2, stack := .ref mr :: g.stack }) target → Steps p.tables e below (T.setTop g) target := by
  obtain ⟨cc, kc, m1, m2, m3⟩ := M
  obtain ⟨k', q, ek⟩ := hZ.alike.2.2 _ _ m2
  have e1 : s.vm.findClass C = some cc := by rw [hZ.alike.findClass]; exact m1
  have e3 : k'.mirror = some mr := by rw [ek]; exact m3
  obtain ⟨vm', X', st⟩ := X.ldcMirror hx hown (mvT hZ w) (a := mr) (by simp [Term.eval, e1, q, e3]) hg hd
  exact ⟨_, X', eT, st⟩
theorem own_virtualUp (X : Stand p l e R s m args below meth c T locs cells slots) (hx : p.tables.exec = Jvm.exec) (hZ : Z.Warmed39 s.vm) {own owner : String} {index : Nat} {y z : MethodName} {bytes : ByteArray} {maxL : Nat} {ret : Option FieldType} {rm : Room} {Q : Option Value → Heap → List Loc → Prop} {as' : Array Value}
    (hown : s.vm.findClass own = some m.cls) (w1 : (Cond.methodLink own index y).before a0 Z = true) (w0 : (Cond.sameMethod y.cls owner y.name y.desc).before args s = true) (w2 : (Cond.declares ⟨owner, y.name, y.desc⟩).before a0 Z = true) (hy : owner ≠ "java/lang/invoke/MethodHandle" ∧ owner ≠ "java/lang/invoke/VarHandle") (w5 : (Cond.selects C y z).before a0 Z = true) (w6 : (Cond.instanceMethod z).before a0 Z = true) (w3 : (Cond.initialized z.cls).before a0 Z = true) (w4 : (Cond.code z bytes maxL ret).before a0 Z = true)
    (hM : MetFree l z (head1 [Cond.code z bytes maxL ret] rm) (fun a U => a = as' ∧ Z.Warmed39 U.vm ∧ U.heap = h) (fun _ _ _ _ _ => True) (fun _ U o U' => ∃ v L, o = .returned v ∧ Q v U'.heap L ∧ FrameEnd U o U' L rm.cells rm.slots))
    (eT : T.heap = h) (E : Exa Z h a C) {W : Nat} (hR : rm.frames + 1 ≤ R.frames ∧ W + (maxL + 11) + rm.locals ≤ R.locals ∧ cells + rm.cells ≤ R.cells ∧ slots + rm.slots ≤ R.slots)
    {g : JFrame} (hg : g.method = m) (hsize : g.locals.size = c.maxLocals) {argsL rest : List Value} (hlen : ∀ sig, parseMethodDescriptor y.desc = some sig → argsL.length = sig.parameters.length) (hstack : g.stack = argsL.reverse ++ .ref a :: rest) (has : (.ref a :: argsL).toArray = as') (hW : 2 * g.monitorRoom + (rest.map fun v => v.category).sum ≤ W) (hd : decode c.code g.pc = .ok (.invokevirtual index, 3)) :
    ∃ (v : Option Value) (T' : State) (L : List Loc), Stand p l e R s m args below meth c T' (locs ++ L) (cells + rm.cells) (slots + rm.slots) ∧ Q v T'.heap L ∧ ∀ target, Steps p.tables e below (T'.setTop { g with pc := g.pc + 3, stack := v.toList ++ rest }) target → Steps p.tables e below (T.setTop g) target := by
  obtain ⟨cq, kq, qa, qb, qc⟩ := isOf hZ eT E
  obtain ⟨v, _, ⟨T', L', k', n'⟩, -, X', ⟨L, hQ, l1, l2, l3⟩, st⟩ := X.virtualBackUp hx (x := y) (y := z) hown (mvT hZ w1) w0 (mvT hZ w2) hy (mvT hZ w5) (mvT hZ w6) (backOf (W := W) hM hZ w4 w3 hR.1 hR.2.1) qa qc (g := g) hg hsize (Steps.refl _) (argsL := argsL) (rest := rest) hlen hstack hW hd (fun _ _ => ⟨has, eT, hR.2.2.1, hR.2.2.2⟩)
  dsimp only [Pt.U, Pt.locs, Pt.cells, Pt.slots] at X' l1 l2 l3 st hQ
  subst l1 l2 l3
  exact ⟨v, T', L, X', hQ, fun _ t => st.trans t⟩
end Cls
section Dis
variable {Z : State} {a0 : Array Value} {h : Heap} {a b : Addr} {C : String} {k k' : ClassId} {ty ty' : FieldType} {z z' : Int32} {vs vs' : List Value} {dv dv' : Value}
theorem own_arex {n : Nat} (V : Arv Z h a k ty z vs dv) (E : Exa Z h b C) (w : (Cond.instantiable C n).before a0 Z = true) : a ≠ b := fun q => by
  subst q
  obtain ⟨c1, ⟨e1, ⟨-, k1, g1, comp, g2⟩, -⟩, -⟩ := V
  obtain ⟨c2, k2, f1, f2, f3, -⟩ := E
  obtain ⟨c3, k3, r1, r2, r3, -⟩ := Cond.instantiable_spec w
  cases e1.symm.trans f1
  cases f2.symm.trans r1
  cases g1.symm.trans r2
  rw [r3] at g2; cases g2
theorem own_arne {i : Nat} (V : Arv Z h a k ty z vs dv) (V' : Arv Z h b k' ty' z' vs' dv') (hi : i < z.toNatClampNeg) (hn : vs.getD i dv ≠ vs'.getD i dv') : a ≠ b := fun q => by
  subst q
  obtain ⟨c1, A1, -, s1, -, H1, -⟩ := V
  obtain ⟨c2, A2, -, s2, -, H2, -⟩ := V'
  cases A1.1.symm.trans A2.1
  have r1 := H1 i (by rw [s1]; exact hi)
  have r2 := H2 i (by rw [s1]; exact hi)
  exact hn (Option.some.inj (r1.symm.trans r2))
theorem own_sne {S n d : String} {v w : Addr} (F : Fld Z h a S n d (.ref v)) (G : Fld Z h b S n d (.ref w)) (q : v ≠ w) : a ≠ b := Fld.ne F G fun e => q (Value.ref.inj e)
def own_ai (vs : List Value) (j : Int32) : Int32 := match vs.getD j.toNatClampNeg (.int (0 : Int32)) with
  | .int v => v
  | _ => 0
theorem own_aiv {j : Int32} (F : Arv Z h a k .int z vs (.int (0 : Int32))) (hj : ¬ j < 0 ∧ j < z) : vs.getD j.toNatClampNeg (.int (0 : Int32)) = .int (own_ai vs j) := by
  obtain ⟨c, A, -, q, -, H, G⟩ := F
  have hin := inb_of q hj
  have g := G j.toNatClampNeg (Nat.lt_of_not_le fun r => hin (Or.inr r))
  unfold own_ai
  revert g
  generalize vs.getD j.toNatClampNeg (.int (0 : Int32)) = v
  cases v <;> simp [fits]
end Dis
theorem own_lt256 {x : Int32} (h : ¬ ((255 : Int32) < x)) : x < (256 : Int32) := by
  rw [Int32.lt_iff_toInt_lt] at *; have : (256 : Int32).toInt = 256 := rfl; have : (255 : Int32).toInt = 255 := rfl; omega
def TabA (tA : List Value) : Prop := ∀ n : Nat, 33 ≤ n → n ≤ 126 → ∃ v : Int32, tA.getD n (.int (0 : Int32)) = .int v ∧ ¬ ((v &&& (28672 : Int32)) = (16384 : Int32))
theorem own_tabI {tA : List Value} {x : Int32} (hA : TabA tA) (h1 : ¬ (x < (33 : Int32))) (h2 : ¬ ((126 : Int32) < x)) : ¬ (((own_ai tA x) &&& (28672 : Int32)) = (16384 : Int32)) := by
  rw [Int32.lt_iff_toInt_lt] at h1 h2
  have e1 : (33 : Int32).toInt = 33 := rfl
  have e2 : (126 : Int32).toInt = 126 := rfl
  have e3 : x.toNatClampNeg = x.toInt.toNat := rfl
  obtain ⟨v, q1, q2⟩ := hA x.toNatClampNeg (by omega) (by omega)
  unfold own_ai
  rw [q1]; exact q2
theorem own_alen {Z : State} {args : Array Value} {t : Term} {a : Addr} {cl : Cell} {ty : FieldType} {z : Int32} (ev : t.eval args Z none [] Z = some (.ref a)) (A : Arr Z Z.heap a cl ty) (h : (Term.length t).eval args Z none [] Z = some (.int z)) : cl.slots.size < 2 ^ 31 ∧ cl.slots.size.toInt32 = z := by
  have f := A.fin (Vm.Alike.refl _)
  simp only [Term.eval, ev, Option.bind_eq_bind, Option.bind_some, f] at h
  split at h
  · rename_i hq; exact ⟨hq, by cases h; rfl⟩
  · cases h
theorem own_hasl (c : Cell) : ∀ (l : List Value) (i : Nat), (∀ j v, l[j]? = some v → c.slots[i + j]? = some v) → HasL c i l
  | [], _, _ => trivial
  | v :: r, i, h => ⟨h 0 v rfl, own_hasl c r (i + 1) fun j w q => by rw [show i + 1 + j = i + (j + 1) by omega]; exact h (j + 1) w q⟩
theorem own_arvS {Z : State} {a : Addr} {cl : Cell} {ty : FieldType} {z : Int32} {dv : Value} (hf : Fit Z) (A : Arr Z Z.heap a cl ty) (q : cl.slots.size < 2 ^ 31) (e : cl.slots.size.toInt32 = z) (hz : ¬ z < 0) : Arv Z Z.heap a cl.cls ty z cl.slots.toList dv :=
  Arv.start hf A q e hz (by rw [← e]; simp only [Int32.toNatClampNeg, len_toInt q, Array.length_toList]; rfl) (own_hasl cl _ 0 fun j v h => by rw [Nat.zero_add]; rw [← h]; simp)
theorem own_tget {cl : Cell} {n : Nat} {v dv : Value} (h : cl.slots[n]? = some v) : cl.slots.toList.getD n dv = v := by
  rw [List.getD_eq_getElem?_getD]; simp [h]
def own_c0 (x : Int32) : Int32 := (33 : Int32) + ((x &&& (2147483647 : Int32)) - ((x &&& (2147483647 : Int32)) / (94 : Int32)) * (94 : Int32))
theorem own_c0i (x : Int32) : 33 ≤ (own_c0 x).toInt ∧ (own_c0 x).toInt ≤ 126 := by
  unfold own_c0
  generalize hy : x &&& (2147483647 : Int32) = y
  have h0 : 0 ≤ y.toInt := by rw [← hy]; exact (c_and x 2147483647 (by decide)).1
  have hd := (c_idiv y 94 94 (by decide) (by decide)).1 h0
  have h1 := c_isub y (y / 94 * 94)
  have h2 := c_imul (y / 94) 94
  have h3 := c_iadd 33 (y - y / 94 * 94)
  have r := rng32 y
  have r2 := rng32 (y / 94 * 94)
  have r3 := rng32 (y - y / 94 * 94)
  have r4 := rng32 (33 + (y - y / 94 * 94))
  have e4 : (94 : Int32).toInt = 94 := rfl
  have e5 : (33 : Int32).toInt = 33 := rfl
  rw [e4] at h2
  rw [e5] at h3
  omega
theorem own_c0a (x : Int32) : ¬ (own_c0 x < (0 : Int32)) := by
  have h := own_c0i x
  rw [Int32.lt_iff_toInt_lt]; have e : (0 : Int32).toInt = 0 := rfl; omega
theorem own_c0b (x : Int32) : ¬ ((255 : Int32) < own_c0 x) := by
  have h := own_c0i x
  rw [Int32.lt_iff_toInt_lt]; have e : (255 : Int32).toInt = 255 := rfl; omega
theorem own_c0l (x : Int32) : ¬ (own_c0 x < (33 : Int32)) := by
  have h := own_c0i x
  rw [Int32.lt_iff_toInt_lt]; have e : (33 : Int32).toInt = 33 := rfl; omega
theorem own_c0h (x : Int32) : ¬ ((126 : Int32) < own_c0 x) := by
  have h := own_c0i x
  rw [Int32.lt_iff_toInt_lt]; have e : (126 : Int32).toInt = 126 := rfl; omega
theorem own_nsp (x : Int32) {k : Int32} (hk : k < (33 : Int32)) : ¬ ((((own_c0 x).toInt8.toInt32) &&& (255 : Int32)) = k) := by
  rw [own_b2c (own_c0a x) (own_c0b x)]; exact fun q => own_c0l x (q ▸ hk)
theorem own_nws (x : Int32) {tA : List Value} (hA : TabA tA) : ¬ (((own_ai tA (((own_c0 x).toInt8.toInt32) &&& (255 : Int32))) &&& (28672 : Int32)) = (16384 : Int32)) := by
  rw [own_b2c (own_c0a x) (own_c0b x)]; exact own_tabI hA (own_c0l x) (own_c0h x)
abbrev Ex0 (Z : State) (h : Heap) (a : Addr) : Prop := Exa Z h a "java/util/ArrayList"
abbrev b0_ := jdk_79_method_35_code
theorem d0 : decode b0_ 0 = .ok (.aload_n 0, 1) := by decide +kernel
theorem d1 : decode b0_ 1 = .ok (.invokeinterface 211 1, 5) := by decide +kernel
def w113 (hw : HW Z a0) := ow 113 hw rfl
def w114 (hw : HW Z a0) := ow 114 hw rfl
def w115 (hw : HW Z a0) := ow 115 hw rfl
def w116 (hw : HW Z a0) := ow 116 hw rfl
def w117 (hw : HW Z a0) := ow 117 hw rfl
def w118 (hw : HW Z a0) := ow 118 hw rfl
def w119 (hw : HW Z a0) := ow 119 hw rfl
def w120 (hw : HW Z a0) := ow 120 hw rfl
def w121 (hw : HW Z a0) := ow 121 hw rfl
theorem d2 : decode b0_ 6 = .ok (.ldc 212, 2) := by decide +kernel
def w123 (hw : HW Z a0) := ow 123 hw rfl
theorem d3 : decode b0_ 8 = .ok (.if_acmp .eq 14, 3) := by decide +kernel
theorem d4 : decode b0_ 22 = .ok (.aload_n 0, 1) := by decide +kernel
theorem d5 : decode b0_ 23 = .ok (.areturn, 1) := by decide +kernel
theorem d6 : decode b0_ 11 = .ok (.aload_n 0, 1) := by decide +kernel
theorem d7 : decode b0_ 12 = .ok (.invokeinterface 214 1, 5) := by decide +kernel
def w125 (hw : HW Z a0) := ow 125 hw rfl
theorem d8 : decode b0_ 17 = .ok (.ldc 215, 2) := by decide +kernel
def w126 (hw : HW Z a0) := ow 126 hw rfl
theorem d9 : decode b0_ 19 = .ok (.if_acmp .ne 5, 3) := by decide +kernel
theorem d10 : decode b0_ 24 = .ok (.aload_n 0, 1) := by decide +kernel
theorem d11 : decode b0_ 25 = .ok (.instanceof 13, 3) := by decide +kernel
def w129 (hw : HW Z a0) := ow 129 hw rfl
def w128 (hw : HW Z a0) := ow 128 hw rfl
theorem d12 : decode b0_ 28 = .ok (.ifCond .eq 14, 3) := by decide +kernel
theorem d13 : decode b0_ 31 = .ok (.new 215, 3) := by decide +kernel
def w130 (hw : HW Z a0) := ow 130 hw rfl
def w131 (hw : HW Z a0) := ow 131 hw rfl
def w149 (hw : HW Z a0) := ow 149 hw rfl
abbrev Fd0 (Z : State) (h : Heap) (a : Addr) (v : Value) : Prop := Fld Z h a "java/util/Collections$UnmodifiableCollection" "c" "Ljava/util/Collection;" v
abbrev sl0 (Z : State) : Nat := Jvm.RoadKit.slotOf Z "java/util/Collections$UnmodifiableCollection" "c" "Ljava/util/Collection;"
def w151 (hw : HW Z a0) := ow 151 hw rfl
abbrev Fd1 (Z : State) (h : Heap) (a : Addr) (v : Value) : Prop := Fld Z h a "java/util/Collections$UnmodifiableList" "list" "Ljava/util/List;" v
abbrev sl1 (Z : State) : Nat := Jvm.RoadKit.slotOf Z "java/util/Collections$UnmodifiableList" "list" "Ljava/util/List;"
theorem d14 : decode b0_ 34 = .ok (.dup, 1) := by decide +kernel
theorem d15 : decode b0_ 35 = .ok (.aload_n 0, 1) := by decide +kernel
theorem d16 : decode b0_ 36 = .ok (.invokespecial 217, 3) := by decide +kernel
def w132 (hw : HW Z a0) := ow 132 hw rfl
abbrev b1_ := jdk_121_method_1_code
theorem d17 : decode b1_ 0 = .ok (.aload_n 0, 1) := by decide +kernel
theorem d18 : decode b1_ 1 = .ok (.aload_n 1, 1) := by decide +kernel
theorem d19 : decode b1_ 2 = .ok (.invokespecial 1, 3) := by decide +kernel
def w135 (hw : HW Z a0) := ow 135 hw rfl
abbrev b2_ := jdk_120_method_1_code
theorem d20 : decode b2_ 0 = .ok (.aload_n 0, 1) := by decide +kernel
theorem d21 : decode b2_ 1 = .ok (.aload_n 1, 1) := by decide +kernel
theorem d22 : decode b2_ 2 = .ok (.invokespecial 1, 3) := by decide +kernel
def w141 (hw : HW Z a0) := ow 141 hw rfl
abbrev b3_ := jdk_119_method_1_code
theorem d23 : decode b3_ 0 = .ok (.aload_n 0, 1) := by decide +kernel
theorem d24 : decode b3_ 1 = .ok (.invokespecial 1, 3) := by decide +kernel
def w147 (hw : HW Z a0) := ow 147 hw rfl
def w13 (hw : HW Z a0) := ow 13 hw rfl
def w14 (hw : HW Z a0) := ow 14 hw rfl
theorem d25 : decode b3_ 4 = .ok (.aload_n 1, 1) := by decide +kernel
theorem d26 : decode b3_ 5 = .ok (.ifnonnull 11, 3) := by decide +kernel
theorem d27 : decode b3_ 16 = .ok (.aload_n 0, 1) := by decide +kernel
theorem d28 : decode b3_ 17 = .ok (.aload_n 1, 1) := by decide +kernel
theorem d29 : decode b3_ 18 = .ok (.putfield 10, 3) := by decide +kernel
def w148 (hw : HW Z a0) := ow 148 hw rfl
abbrev Ex1 (Z : State) (h : Heap) (a : Addr) : Prop := Exa Z h a "java/util/Collections$UnmodifiableRandomAccessList"
theorem d30 : decode b3_ 21 = .ok (.return_, 1) := by decide +kernel
theorem ef_0 (x0 x1 : Addr) (m : MethodId) : entryFrame m #[(.ref x0), (.ref x1)] 2 = mkF m 0 #[.val (.ref x0), .val (.ref x1)] [] := by first | (simp [entryFrame, mkF, argsToLocals, Value.category]; done) | rfl
theorem pn_Collections_UnmodifiableCollection424 : plainName "java/util/Collections$UnmodifiableCollection" = true := by first | (simp [plainName, overriddenIn]; done) | decide +kernel
abbrev y0__init_ : MethodName := ⟨"java/util/Collections$UnmodifiableCollection", "<init>", "(Ljava/util/Collection;)V"⟩
def WS_r3__init_ (Z : State) (o0 : Addr) : List (Addr × Nat) := [(o0, (sl0 Z))]
def Q_r3__init_ (Z : State) (o0 o1 : Addr) (h0 : Heap) (n0 : Nat) (v : Option Value) (h : Heap) (L : List Loc) : Prop := v = none ∧ Fr n0 L ∧ KL h0 h (WS_r3__init_ Z o0) ∧ Fd0 Z h o0 (.ref o1)
theorem r3__init_ (l : Launch) (Z : State) (a0 : Array Value) (hw : HW Z a0) (ws : List Jvm.Cond) (o0 o1 : Addr) (h0 : Heap) (n0 : Nat) (Z0 : n0 ≤ h0.size) (F_o0_c : Fd0 Z h0 o0 .null) (E_o0 : Ex1 Z h0 o0) (g_o0 : n0 ≤ o0) :
    MF l Z y0__init_ b3_ 2 none ws ⟨1, 0, 0, 12⟩ #[(.ref o0), (.ref o1)] h0 (Q_r3__init_ Z o0 o1 h0 n0) := by
 refine own_body (plainFor_of_name pn_Collections_UnmodifiableCollection424) (ef_0 o0 o1) (by decide) (by decide) ?_
 intro p e s m below meth c s₁ hx hby hml hown hnm hret hZ hh e0 X0
 have N0 := Fr.nil n0
 obtain ⟨T1, X1, e1, st1⟩ := initO X0 hx hZ hown (w147 hw) (w13 hw) (w14 hw) e0 (g := (mkF m 1 #[vr o0, vr o1] [(.ref o0)])) rfl hml.symm rfl (hb hby d24) (by decide) (W := 0) (own_wr rfl rfl) (by decide)
 obtain ⟨T2, h2, X2, e2, W2, st2⟩ := putF X1 hx hZ hown (host := "") (Or.inl (w148 hw)) Via.refl e1 F_o0_c E_o0 (Or.inr ⟨(w149 hw), rfl, hnm⟩) (w130 hw) (ty := (.object "java/util/Collection")) (by decide) rfl rfl (g := (mkF m 18 #[vr o0, vr o1] [(.ref o1), (.ref o0)])) rfl rfl (hb hby d29)
 have K2 := KL.ofW W2
 have Fw2 : Fd0 Z h2 o0 (.ref o1) := Fld.same W2 F_o0_c
 have N2 := Fr.snoc X2 N0 g_o0
 have C0 := (KL.refl h0 (WS_r3__init_ Z o0)).trans K2 (naO (own_mi 0 rfl) na0)
 refine ⟨T2, _, none, X2, (fun h => by cases h <;> rfl), ?_, fun fs hr => ?_⟩
 · show Q_r3__init_ Z o0 o1 h0 n0 _ T2.heap _
   rw [e2]
   exact ⟨rfl, N2, C0, Fw2⟩
 refine t_aloadN 1 X0.here hx hby d23 rfl rfl rfl ?_
 refine st1 _ ?_
 refine t_aloadN 5 X1.here hx hby d25 rfl rfl rfl ?_
 refine t_ifnonnullYes (pc := 5) 16 X1.here hx hby d26 (by decide) (by decide) ?_
 refine t_aloadN 17 X1.here hx hby d27 rfl rfl rfl ?_
 refine t_aloadN 18 X1.here hx hby d28 rfl rfl rfl ?_
 refine st2 _ ?_
 exact X2.returnOut hx hret (hb hby d30) hr
def w146 (hw : HW Z a0) := ow 146 hw rfl
def w145 (hw : HW Z a0) := ow 145 hw rfl
theorem pd_0 : parseMethodDescriptor "(Ljava/util/Collection;)V" = some ⟨[(.object "java/util/Collection")], none⟩ := by decide +kernel
def w142 (hw : HW Z a0) := ow 142 hw rfl
theorem d31 : decode b2_ 5 = .ok (.aload_n 0, 1) := by decide +kernel
theorem d32 : decode b2_ 6 = .ok (.aload_n 1, 1) := by decide +kernel
theorem d33 : decode b2_ 7 = .ok (.putfield 7, 3) := by decide +kernel
def w150 (hw : HW Z a0) := ow 150 hw rfl
abbrev ft0_ : FieldType := .object "java/util/List"
abbrev ft1_ : FieldType := .object "java/util/Collection"
theorem sn_0 (hw : HW Z a0) : sl1 Z ≠ sl0 Z := slot_ne (a0 := a0) (Or.inr (w151 hw)) (Or.inr (w149 hw)) (by decide) (t := ft0_) (t' := ft1_) (by decide) (by decide)
theorem d34 : decode b2_ 10 = .ok (.return_, 1) := by decide +kernel
theorem sn_1 (hw : HW Z a0) : sl0 Z ≠ sl1 Z := slot_ne (a0 := a0) (Or.inr (w149 hw)) (Or.inr (w151 hw)) (by decide) (t := ft1_) (t' := ft0_) (by decide) (by decide)
theorem pn_Collections_UnmodifiableList797 : plainName "java/util/Collections$UnmodifiableList" = true := by first | (simp [plainName, overriddenIn]; done) | decide +kernel
abbrev y1__init_ : MethodName := ⟨"java/util/Collections$UnmodifiableList", "<init>", "(Ljava/util/List;)V"⟩
def WS_r2__init_ (Z : State) (o0 : Addr) : List (Addr × Nat) := [(o0, (sl0 Z)), (o0, (sl1 Z))]
def Q_r2__init_ (Z : State) (o0 o1 : Addr) (h0 : Heap) (n0 : Nat) (v : Option Value) (h : Heap) (L : List Loc) : Prop := v = none ∧ Fr n0 L ∧ KL h0 h (WS_r2__init_ Z o0) ∧ Fd0 Z h o0 (.ref o1) ∧ Fd1 Z h o0 (.ref o1)
theorem r2__init_ (l : Launch) (Z : State) (a0 : Array Value) (hw : HW Z a0) (ws : List Jvm.Cond) (o0 o1 : Addr) (h0 : Heap) (n0 : Nat) (Z0 : n0 ≤ h0.size) (F_o0_c : Fd0 Z h0 o0 .null) (E_o0 : Ex1 Z h0 o0) (g_o0 : n0 ≤ o0) (F_o0_list : Fd1 Z h0 o0 .null) :
    MF l Z y1__init_ b2_ 2 none ws ⟨2, 0, 0, 25⟩ #[(.ref o0), (.ref o1)] h0 (Q_r2__init_ Z o0 o1 h0 n0) := by
 refine own_body (plainFor_of_name pn_Collections_UnmodifiableList797) (ef_0 o0 o1) (by decide) (by decide) ?_
 intro p e s m below meth c s₁ hx hby hml hown hnm hret hZ hh e0 X0
 have N0 := Fr.nil n0
 obtain ⟨_, T1, L1, X1, hQ1, st1⟩ := own_init X0 hx hZ rfl hown (w141 hw) (w142 hw) (w145 hw) (w146 hw) (by decide) (r3__init_ l Z a0 hw [] o0 o1 h0 n0 Z0 F_o0_c E_o0 g_o0) e0 (W := 0) (by decide) (g := (mkF m 2 #[vr o0, vr o1] [(.ref o1), (.ref o0)])) rfl hml.symm (argsL := [(.ref o1)]) (rest := []) (lenOf pd_0 rfl) rfl rfl (own_wr rfl rfl) (hb hby d22)
 obtain ⟨rfl, N1q, K1, Q1_0⟩ := hQ1
 have N1 := Fr.app N0 N1q
 have f2 := (kFld K1 F_o0_list (nwR (sn_0 hw) nw0))
 have f3 := (kExa K1 E_o0)
 obtain ⟨T4, h4, X4, e4, W4, st4⟩ := putF X1 hx hZ hown (host := "") (Or.inl (w150 hw)) Via.refl rfl f2 f3 (Or.inr ⟨(w151 hw), rfl, hnm⟩) (w130 hw) (ty := (.object "java/util/List")) (by decide) rfl rfl (g := (mkF m 7 #[vr o0, vr o1] [(.ref o1), (.ref o0)])) rfl rfl (hb hby d33)
 have K4 := KL.ofW W4
 have Fw4 : Fd1 Z h4 o0 (.ref o1) := Fld.same W4 f2
 have N4 := Fr.snoc X4 N1 g_o0
 have C0 := (KL.refl h0 (WS_r2__init_ Z o0)).trans K1 (naO (own_mi 0 rfl) na0)
 have C1 := C0.trans K4 (naO (own_mi 1 rfl) na0)
 have f5 := (kFld K4 Q1_0 (nwR (sn_1 hw) nw0))
 refine ⟨T4, _, none, X4, (fun h => by cases h <;> rfl), ?_, fun fs hr => ?_⟩
 · show Q_r2__init_ Z o0 o1 h0 n0 _ T4.heap _
   rw [e4]
   exact ⟨rfl, N4, C1, f5, Fw4⟩
 refine t_aloadN 1 X0.here hx hby d20 rfl rfl rfl ?_
 refine t_aloadN 2 X0.here hx hby d21 rfl rfl rfl ?_
 refine st1 _ ?_
 refine t_aloadN 6 X1.here hx hby d31 rfl rfl rfl ?_
 refine t_aloadN 7 X1.here hx hby d32 rfl rfl rfl ?_
 refine st4 _ ?_
 exact X4.returnOut hx hret (hb hby d34) hr
def w140 (hw : HW Z a0) := ow 140 hw rfl
def w139 (hw : HW Z a0) := ow 139 hw rfl
theorem pd_1 : parseMethodDescriptor "(Ljava/util/List;)V" = some ⟨[(.object "java/util/List")], none⟩ := by decide +kernel
def w136 (hw : HW Z a0) := ow 136 hw rfl
theorem d35 : decode b1_ 5 = .ok (.return_, 1) := by decide +kernel
theorem pn_Collections_UnmodifiableRandomAccessList6 : plainName "java/util/Collections$UnmodifiableRandomAccessList" = true := by first | (simp [plainName, overriddenIn]; done) | decide +kernel
abbrev y2__init_ : MethodName := ⟨"java/util/Collections$UnmodifiableRandomAccessList", "<init>", "(Ljava/util/List;)V"⟩
def WS_r1__init_ (Z : State) (o0 : Addr) : List (Addr × Nat) := [(o0, (sl0 Z)), (o0, (sl1 Z))]
def Q_r1__init_ (Z : State) (o0 o1 : Addr) (h0 : Heap) (n0 : Nat) (v : Option Value) (h : Heap) (L : List Loc) : Prop := v = none ∧ Fr n0 L ∧ KL h0 h (WS_r1__init_ Z o0) ∧ Fd0 Z h o0 (.ref o1) ∧ Fd1 Z h o0 (.ref o1)
theorem r1__init_ (l : Launch) (Z : State) (a0 : Array Value) (hw : HW Z a0) (ws : List Jvm.Cond) (o0 o1 : Addr) (h0 : Heap) (n0 : Nat) (Z0 : n0 ≤ h0.size) (F_o0_c : Fd0 Z h0 o0 .null) (E_o0 : Ex1 Z h0 o0) (F_o0_list : Fd1 Z h0 o0 .null) (g_o0 : n0 ≤ o0) :
    MF l Z y2__init_ b1_ 2 none ws ⟨3, 0, 0, 38⟩ #[(.ref o0), (.ref o1)] h0 (Q_r1__init_ Z o0 o1 h0 n0) := by
 refine own_body (plainFor_of_name pn_Collections_UnmodifiableRandomAccessList6) (ef_0 o0 o1) (by decide) (by decide) ?_
 intro p e s m below meth c s₁ hx hby hml hown hnm hret hZ hh e0 X0
 have N0 := Fr.nil n0
 obtain ⟨_, T1, L1, X1, hQ1, st1⟩ := own_init X0 hx hZ rfl hown (w135 hw) (w136 hw) (w139 hw) (w140 hw) (by decide) (r2__init_ l Z a0 hw [] o0 o1 h0 n0 Z0 F_o0_c E_o0 g_o0 F_o0_list) e0 (W := 0) (by decide) (g := (mkF m 2 #[vr o0, vr o1] [(.ref o1), (.ref o0)])) rfl hml.symm (argsL := [(.ref o1)]) (rest := []) (lenOf pd_1 rfl) rfl rfl (own_wr rfl rfl) (hb hby d19)
 obtain ⟨rfl, N1q, K1, Q1_0, Q1_1⟩ := hQ1
 have N1 := Fr.app N0 N1q
 have C0 := (KL.refl h0 (WS_r1__init_ Z o0)).trans K1 (naO (own_mi 0 rfl) (naO (own_mi 1 rfl) na0))
 refine ⟨T1, _, none, X1, (fun h => by cases h <;> rfl), ?_, fun fs hr => ?_⟩
 · show Q_r1__init_ Z o0 o1 h0 n0 _ T1.heap _
   exact ⟨rfl, N1, C0, Q1_0, Q1_1⟩
 refine t_aloadN 1 X0.here hx hby d17 rfl rfl rfl ?_
 refine t_aloadN 2 X0.here hx hby d18 rfl rfl rfl ?_
 refine st1 _ ?_
 exact X1.returnOut hx hret (hb hby d35) hr
def w134 (hw : HW Z a0) := ow 134 hw rfl
def w133 (hw : HW Z a0) := ow 133 hw rfl
theorem d36 : decode b0_ 39 = .ok (.goto 11, 3) := by decide +kernel
theorem d37 : decode b0_ 50 = .ok (.areturn, 1) := by decide +kernel
theorem ef_1 (x0 : Addr) (m : MethodId) : entryFrame m #[(.ref x0)] 1 = mkF m 0 #[.val (.ref x0)] [] := by first | (simp [entryFrame, mkF, argsToLocals, Value.category]; done) | rfl
theorem pn_Collections115 : plainName "java/util/Collections" = true := by first | (simp [plainName, overriddenIn]; done) | decide +kernel
abbrev y3_unmodifiableList : MethodName := ⟨"java/util/Collections", "unmodifiableList", "(Ljava/util/List;)Ljava/util/List;"⟩
def Q_r_unl1 (Z : State) (o0 m_AL : Addr) (h0 : Heap) (n0 : Nat) (v : Option Value) (h : Heap) (L : List Loc) : Prop := v = some (.ref o0) ∧ Fr n0 L ∧ h = h0
theorem r_unl1 (l : Launch) (Z : State) (a0 : Array Value) (hw : HW Z a0) (ws : List Jvm.Cond) (o0 m_AL : Addr) (h0 : Heap) (n0 : Nat) (Z0 : n0 ≤ h0.size) (E_o0 : Ex0 Z h0 o0) (M_java_util_ArrayList : OMir Z "java/util/ArrayList" m_AL) (M_java_util_Collections_UnmodifiableList : OMir Z "java/util/Collections$UnmodifiableList" m_AL) :
    MF l Z y3_unmodifiableList b0_ 1 (some (.object "java/util/List")) ws ⟨4, 1, 2, 52⟩ #[(.ref o0)] h0 (Q_r_unl1 Z o0 m_AL h0 n0) := by
 refine own_bodyM (y := y3_unmodifiableList) (k := 0) (n := 0) (plainFor_of_name pn_Collections115) (ef_1 o0) (by decide) (by decide) ?_
 intro p e s m below meth c s₁ hx hby hml hown hnm hret hZ hh e0 X0
 have N0 := Fr.nil n0
 obtain ⟨T1, X1, e1, st1⟩ := own_gclsI X0 hx hZ hown (w113 hw) (w114 hw) (own_mvI hZ (w115 hw)) (w116 hw) (w117 hw) (w118 hw) (w119 hw) (w120 hw) (w121 hw) (by decide) (by decide) e0 E_o0 M_java_util_ArrayList (g := (mkF m 1 #[vr o0] [(.ref o0)])) rfl hml.symm rfl (hb hby d1) (by decide) (W := 0) (own_wr rfl rfl) (by decide)
 obtain ⟨T2, X2, e2, st2⟩ := own_ldcM X1 hx hZ hown (w123 hw) M_java_util_Collections_UnmodifiableList e1 (g := (mkF m 6 #[vr o0] [(.ref m_AL)])) rfl (hb hby d2)
 refine ⟨T2, _, some (.ref o0), X2, (fun h => by cases h <;> rfl), ?_, fun fs hr => ?_⟩
 · show Q_r_unl1 Z o0 m_AL h0 n0 _ T2.heap _
   rw [e2]
   exact ⟨rfl, N0, rfl⟩
 refine t_aloadN 1 X0.here hx hby d0 rfl rfl rfl ?_
 refine st1 _ ?_
 refine st2 _ ?_
 refine Jvm.RoadKit.acmp (g := (mkF m 8 #[vr o0] [(.ref m_AL), (.ref m_AL)])) X2 hx rfl rfl rfl (pc0 := 8) (pc' := 22) (same := true) rfl (hb hby d3) rfl (decide_eq_true rfl) (by decide) (by decide) ?_
 refine t_aloadN 23 X2.here hx hby d4 rfl rfl rfl ?_
 jvm_step X2.here [X2.here.top, hx, (hb hby d5), X2.method', hret, Value.isRef, FieldType.isReference]
 first | (intro acts; rw [hr _ acts rfl rfl rfl]) | rw [hr _ _ rfl rfl rfl]
 exact Steps.refl _
def Q_r_unl2 (Z : State) (o0 m_AL m_UL : Addr) (h0 : Heap) (n0 : Nat) (v : Option Value) (h : Heap) (L : List Loc) : Prop := v = some (.ref o0) ∧ Fr n0 L ∧ h = h0
theorem r_unl2 (l : Launch) (Z : State) (a0 : Array Value) (hw : HW Z a0) (ws : List Jvm.Cond) (o0 m_AL m_UL : Addr) (h0 : Heap) (n0 : Nat) (Z0 : n0 ≤ h0.size) (E_o0 : Ex0 Z h0 o0) (M_java_util_ArrayList : OMir Z "java/util/ArrayList" m_AL) (M_java_util_Collections_UnmodifiableList : OMir Z "java/util/Collections$UnmodifiableList" m_UL) (ne_m_AL_m_UL : m_AL ≠ m_UL) (M_java_util_Collections_UnmodifiableRandomAccessList : OMir Z "java/util/Collections$UnmodifiableRandomAccessList" m_AL) :
    MF l Z y3_unmodifiableList b0_ 1 (some (.object "java/util/List")) ws ⟨4, 1, 2, 52⟩ #[(.ref o0)] h0 (Q_r_unl2 Z o0 m_AL m_UL h0 n0) := by
 refine own_bodyM (y := y3_unmodifiableList) (k := 0) (n := 0) (plainFor_of_name pn_Collections115) (ef_1 o0) (by decide) (by decide) ?_
 intro p e s m below meth c s₁ hx hby hml hown hnm hret hZ hh e0 X0
 have N0 := Fr.nil n0
 obtain ⟨T1, X1, e1, st1⟩ := own_gclsI X0 hx hZ hown (w113 hw) (w114 hw) (own_mvI hZ (w115 hw)) (w116 hw) (w117 hw) (w118 hw) (w119 hw) (w120 hw) (w121 hw) (by decide) (by decide) e0 E_o0 M_java_util_ArrayList (g := (mkF m 1 #[vr o0] [(.ref o0)])) rfl hml.symm rfl (hb hby d1) (by decide) (W := 0) (own_wr rfl rfl) (by decide)
 obtain ⟨T2, X2, e2, st2⟩ := own_ldcM X1 hx hZ hown (w123 hw) M_java_util_Collections_UnmodifiableList e1 (g := (mkF m 6 #[vr o0] [(.ref m_AL)])) rfl (hb hby d2)
 obtain ⟨T3, X3, e3, st3⟩ := own_gclsI X2 hx hZ hown (w125 hw) (w114 hw) (own_mvI hZ (w115 hw)) (w116 hw) (w117 hw) (w118 hw) (w119 hw) (w120 hw) (w121 hw) (by decide) (by decide) e2 E_o0 M_java_util_ArrayList (g := (mkF m 12 #[vr o0] [(.ref o0)])) rfl hml.symm rfl (hb hby d7) (by decide) (W := 0) (own_wr rfl rfl) (by decide)
 obtain ⟨T4, X4, e4, st4⟩ := own_ldcM X3 hx hZ hown (w126 hw) M_java_util_Collections_UnmodifiableRandomAccessList e3 (g := (mkF m 17 #[vr o0] [(.ref m_AL)])) rfl (hb hby d8)
 refine ⟨T4, _, some (.ref o0), X4, (fun h => by cases h <;> rfl), ?_, fun fs hr => ?_⟩
 · show Q_r_unl2 Z o0 m_AL m_UL h0 n0 _ T4.heap _
   rw [e4]
   exact ⟨rfl, N0, rfl⟩
 refine t_aloadN 1 X0.here hx hby d0 rfl rfl rfl ?_
 refine st1 _ ?_
 refine st2 _ ?_
 refine Jvm.RoadKit.acmp (g := (mkF m 8 #[vr o0] [(.ref m_UL), (.ref m_AL)])) X2 hx rfl rfl rfl (pc0 := 8) (pc' := 11) (same := false) rfl (hb hby d3) rfl (decide_eq_false fun q => absurd (Value.ref.inj q) ne_m_AL_m_UL) (by decide) (by decide) ?_
 refine t_aloadN 12 X2.here hx hby d6 rfl rfl rfl ?_
 refine st3 _ ?_
 refine st4 _ ?_
 refine Jvm.RoadKit.acmp (g := (mkF m 19 #[vr o0] [(.ref m_AL), (.ref m_AL)])) X4 hx rfl rfl rfl (pc0 := 19) (pc' := 22) (same := true) rfl (hb hby d9) rfl (decide_eq_true rfl) (by decide) (by decide) ?_
 refine t_aloadN 23 X4.here hx hby d4 rfl rfl rfl ?_
 jvm_step X4.here [X4.here.top, hx, (hb hby d5), X4.method', hret, Value.isRef, FieldType.isReference]
 first | (intro acts; rw [hr _ acts rfl rfl rfl]) | rw [hr _ _ rfl rfl rfl]
 exact Steps.refl _
def Q_r_unl3 (Z : State) (o0 m_AL m_UL m_UR : Addr) (h0 : Heap) (n0 : Nat) (v : Option Value) (h : Heap) (L : List Loc) : Prop := ∃ b6 : Addr, v = some (.ref b6) ∧ Fr n0 L ∧ KL h0 h [] ∧ h0.size ≤ b6 ∧ Ex1 Z h b6 ∧ Fd0 Z h b6 (.ref o0) ∧ Fd1 Z h b6 (.ref o0)
theorem r_unl3 (l : Launch) (Z : State) (a0 : Array Value) (hw : HW Z a0) (ws : List Jvm.Cond) (o0 m_AL m_UL m_UR : Addr) (h0 : Heap) (n0 : Nat) (Z0 : n0 ≤ h0.size) (E_o0 : Ex0 Z h0 o0) (M_java_util_ArrayList : OMir Z "java/util/ArrayList" m_AL) (M_java_util_Collections_UnmodifiableList : OMir Z "java/util/Collections$UnmodifiableList" m_UL) (ne_m_AL_m_UL : m_AL ≠ m_UL) (M_java_util_Collections_UnmodifiableRandomAccessList : OMir Z "java/util/Collections$UnmodifiableRandomAccessList" m_UR) (ne_m_AL_m_UR : m_AL ≠ m_UR) :
    MF l Z y3_unmodifiableList b0_ 1 (some (.object "java/util/List")) ws ⟨4, 1, 2, 52⟩ #[(.ref o0)] h0 (Q_r_unl3 Z o0 m_AL m_UL m_UR h0 n0) := by
 refine own_body (plainFor_of_name pn_Collections115) (ef_1 o0) (by decide) (by decide) ?_
 intro p e s m below meth c s₁ hx hby hml hown hnm hret hZ hh e0 X0
 have N0 := Fr.nil n0
 obtain ⟨T1, X1, e1, st1⟩ := own_gclsI X0 hx hZ hown (w113 hw) (w114 hw) (own_mvI hZ (w115 hw)) (w116 hw) (w117 hw) (w118 hw) (w119 hw) (w120 hw) (w121 hw) (by decide) (by decide) e0 E_o0 M_java_util_ArrayList (g := (mkF m 1 #[vr o0] [(.ref o0)])) rfl hml.symm rfl (hb hby d1) (by decide) (W := 0) (own_wr rfl rfl) (by decide)
 obtain ⟨T2, X2, e2, st2⟩ := own_ldcM X1 hx hZ hown (w123 hw) M_java_util_Collections_UnmodifiableList e1 (g := (mkF m 6 #[vr o0] [(.ref m_AL)])) rfl (hb hby d2)
 obtain ⟨T3, X3, e3, st3⟩ := own_gclsI X2 hx hZ hown (w125 hw) (w114 hw) (own_mvI hZ (w115 hw)) (w116 hw) (w117 hw) (w118 hw) (w119 hw) (w120 hw) (w121 hw) (by decide) (by decide) e2 E_o0 M_java_util_ArrayList (g := (mkF m 12 #[vr o0] [(.ref o0)])) rfl hml.symm rfl (hb hby d7) (by decide) (W := 0) (own_wr rfl rfl) (by decide)
 obtain ⟨T4, X4, e4, st4⟩ := own_ldcM X3 hx hZ hown (w126 hw) M_java_util_Collections_UnmodifiableRandomAccessList e3 (g := (mkF m 17 #[vr o0] [(.ref m_AL)])) rfl (hb hby d8)
 obtain ⟨T5, X5, e5, st5⟩ := instY X4 hx hZ hown (w128 hw) e4 (Ins.of_exa E_o0 (w129 hw)) (g := (mkF m 25 #[vr o0] [(.ref o0)])) rfl rfl (hb hby d11)
 obtain ⟨T6, h6, X6, e6, E6, A6, D6, -, st6⟩ := newO X5 hx hZ hown (w126 hw) (w130 hw) (w131 hw) e5 (g := (mkF m 31 #[vr o0] [])) rfl (hb hby d13) (by decide) (by decide)
 obtain ⟨b6, g6⟩ : ∃ z, z = h0.size := ⟨_, rfl⟩
 rw [← g6] at A6 D6 st6
 have ge_b6 : h0.size ≤ b6 := Nat.le_of_eq g6.symm
 have K6 := KL.ofE E6
 have F_b6_c : Fd0 Z h6 b6 .null := D6 (Or.inr (w149 hw)) (ty := (.object "java/util/Collection")) (by decide)
 have F_b6_list : Fd1 Z h6 b6 .null := D6 (Or.inr (w151 hw)) (ty := (.object "java/util/List")) (by decide)
 have gg8 := Nat.le_trans Z0 ge_b6
 obtain ⟨_, T7, L7, X7, hQ7, st7⟩ := own_init X6 hx hZ rfl hown (w132 hw) (w133 hw) (w131 hw) (w134 hw) (by decide) (r1__init_ l Z a0 hw [] b6 o0 h6 n0 (Nat.le_trans Z0 K6.1) F_b6_c A6 F_b6_list gg8) e6 (W := 1) (by decide) (g := (mkF m 36 #[vr o0] [(.ref o0), (.ref b6), (.ref b6)])) rfl hml.symm (argsL := [(.ref o0)]) (rest := [(.ref b6)]) (lenOf pd_1 rfl) rfl rfl (own_wr rfl rfl) (hb hby d16)
 obtain ⟨rfl, N7q, K7, Q7_0, Q7_1⟩ := hQ7
 have N7 := Fr.app N0 N7q
 have C0 := (KL.refl h0 []).trans K6 na0
 have C1 := C0.trans K7 (naO (Or.inr ge_b6) (naO (Or.inr ge_b6) na0))
 have f9 := (kExa K7 A6)
 refine ⟨T7, _, some (.ref b6), X7, (fun h => by cases h <;> rfl), ?_, fun fs hr => ?_⟩
 · show Q_r_unl3 Z o0 m_AL m_UL m_UR h0 n0 _ T7.heap _
   exact ⟨b6, rfl, N7, C1, ge_b6, f9, Q7_0, Q7_1⟩
 refine t_aloadN 1 X0.here hx hby d0 rfl rfl rfl ?_
 refine st1 _ ?_
 refine st2 _ ?_
 refine Jvm.RoadKit.acmp (g := (mkF m 8 #[vr o0] [(.ref m_UL), (.ref m_AL)])) X2 hx rfl rfl rfl (pc0 := 8) (pc' := 11) (same := false) rfl (hb hby d3) rfl (decide_eq_false fun q => absurd (Value.ref.inj q) ne_m_AL_m_UL) (by decide) (by decide) ?_
 refine t_aloadN 12 X2.here hx hby d6 rfl rfl rfl ?_
 refine st3 _ ?_
 refine st4 _ ?_
 refine Jvm.RoadKit.acmp (g := (mkF m 19 #[vr o0] [(.ref m_UR), (.ref m_AL)])) X4 hx rfl rfl rfl (pc0 := 19) (pc' := 24) (same := false) rfl (hb hby d9) rfl (decide_eq_false fun q => absurd (Value.ref.inj q) ne_m_AL_m_UR) (by decide) (by decide) ?_
 refine t_aloadN 25 X4.here hx hby d10 rfl rfl rfl ?_
 refine st5 _ ?_
 refine t_ifNo 31 X5.here hx hby d12 (by decide) rfl ?_
 refine st6 _ ?_
 refine t_dup 35 X6.here hx hby d14 rfl rfl ?_
 refine t_aloadN 36 X6.here hx hby d15 rfl rfl rfl ?_
 refine st7 _ ?_
 refine t_goto (pc := 39) 50 X7.here hx hby d36 (by decide) (by decide) ?_
 jvm_step X7.here [X7.here.top, hx, (hb hby d37), X7.method', hret, Value.isRef, FieldType.isReference]
 first | (intro acts; rw [hr _ acts rfl rfl rfl]) | rw [hr _ _ rfl rfl rfl]
 exact Steps.refl _
def Q_unm (h0 : Heap) (n0 : Nat) (v : Option Value) (h : Heap) (L : List Loc) : Prop := ∃ r : Addr, v = some (.ref r) ∧ Fr n0 L ∧ KL h0 h [] ∧ r < h.size
theorem r_unl (l : Launch) (Z : State) (a0 : Array Value) (hw : HW Z a0) (ws : List Jvm.Cond) (o0 m_AL m_UL m_UR : Addr) (h0 : Heap) (n0 : Nat) (Z0 : n0 ≤ h0.size) (E_o0 : Ex0 Z h0 o0) (M_java_util_ArrayList : OMir Z "java/util/ArrayList" m_AL) (M_java_util_Collections_UnmodifiableList : OMir Z "java/util/Collections$UnmodifiableList" m_UL) (M_java_util_Collections_UnmodifiableRandomAccessList : OMir Z "java/util/Collections$UnmodifiableRandomAccessList" m_UR) :
    MF l Z y3_unmodifiableList b0_ 1 (some (.object "java/util/List")) ws ⟨4, 1, 2, 52⟩ #[(.ref o0)] h0 (Q_unm h0 n0) := by
  by_cases ne_m_AL_m_UL : m_AL = m_UL
  · subst ne_m_AL_m_UL
    exact own_impP (r_unl1 l Z a0 hw ws o0 m_AL h0 n0 Z0 E_o0 M_java_util_ArrayList M_java_util_Collections_UnmodifiableList) fun v h L ⟨q1, q2, q3⟩ => ⟨o0, q1, q2, (by rw [q3]; exact KL.refl _ _), (by rw [q3]; exact Exa.lt E_o0)⟩
  ·
    by_cases ne_m_AL_m_UR : m_AL = m_UR
    · subst ne_m_AL_m_UR
      exact own_impP (r_unl2 l Z a0 hw ws o0 m_AL m_UL h0 n0 Z0 E_o0 M_java_util_ArrayList M_java_util_Collections_UnmodifiableList ne_m_AL_m_UL M_java_util_Collections_UnmodifiableRandomAccessList) fun v h L ⟨q1, q2, q3⟩ => ⟨o0, q1, q2, (by rw [q3]; exact KL.refl _ _), (by rw [q3]; exact Exa.lt E_o0)⟩
    ·
        exact own_impP (r_unl3 l Z a0 hw ws o0 m_AL m_UL m_UR h0 n0 Z0 E_o0 M_java_util_ArrayList M_java_util_Collections_UnmodifiableList ne_m_AL_m_UL M_java_util_Collections_UnmodifiableRandomAccessList ne_m_AL_m_UR) fun v h L ⟨b6, qv, qN, qK, q0, q1, q2, q3⟩ => ⟨b6, qv, qN, qK, Exa.lt q1⟩
abbrev Ex2 (Z : State) (h : Heap) (a : Addr) : Prop := Exa Z h a "java/util/LinkedHashMap"
abbrev b4_ := jdk_79_method_36_code
theorem d38 : decode b4_ 0 = .ok (.aload_n 0, 1) := by decide +kernel
theorem d39 : decode b4_ 1 = .ok (.invokeinterface 220 1, 5) := by decide +kernel
def w157 (hw : HW Z a0) := ow 157 hw rfl
def w158 (hw : HW Z a0) := ow 158 hw rfl
def w159 (hw : HW Z a0) := ow 159 hw rfl
def w160 (hw : HW Z a0) := ow 160 hw rfl
def w161 (hw : HW Z a0) := ow 161 hw rfl
theorem d40 : decode b4_ 6 = .ok (.ldc 223, 2) := by decide +kernel
def w163 (hw : HW Z a0) := ow 163 hw rfl
theorem d41 : decode b4_ 8 = .ok (.if_acmp .ne 5, 3) := by decide +kernel
theorem d42 : decode b4_ 11 = .ok (.aload_n 0, 1) := by decide +kernel
theorem d43 : decode b4_ 12 = .ok (.areturn, 1) := by decide +kernel
theorem d44 : decode b4_ 13 = .ok (.new 223, 3) := by decide +kernel
def w165 (hw : HW Z a0) := ow 165 hw rfl
def w166 (hw : HW Z a0) := ow 166 hw rfl
def w172 (hw : HW Z a0) := ow 172 hw rfl
abbrev Fd2 (Z : State) (h : Heap) (a : Addr) (v : Value) : Prop := Fld Z h a "java/util/Collections$UnmodifiableMap" "m" "Ljava/util/Map;" v
abbrev sl2 (Z : State) : Nat := Jvm.RoadKit.slotOf Z "java/util/Collections$UnmodifiableMap" "m" "Ljava/util/Map;"
theorem d45 : decode b4_ 16 = .ok (.dup, 1) := by decide +kernel
theorem d46 : decode b4_ 17 = .ok (.aload_n 0, 1) := by decide +kernel
theorem d47 : decode b4_ 18 = .ok (.invokespecial 225, 3) := by decide +kernel
def w167 (hw : HW Z a0) := ow 167 hw rfl
abbrev b5_ := jdk_2500_method_1_code
theorem d48 : decode b5_ 0 = .ok (.aload_n 0, 1) := by decide +kernel
theorem d49 : decode b5_ 1 = .ok (.invokespecial 1, 3) := by decide +kernel
def w170 (hw : HW Z a0) := ow 170 hw rfl
theorem d50 : decode b5_ 4 = .ok (.aload_n 1, 1) := by decide +kernel
theorem d51 : decode b5_ 5 = .ok (.ifnonnull 11, 3) := by decide +kernel
theorem d52 : decode b5_ 16 = .ok (.aload_n 0, 1) := by decide +kernel
theorem d53 : decode b5_ 17 = .ok (.aload_n 1, 1) := by decide +kernel
theorem d54 : decode b5_ 18 = .ok (.putfield 10, 3) := by decide +kernel
def w171 (hw : HW Z a0) := ow 171 hw rfl
abbrev Ex3 (Z : State) (h : Heap) (a : Addr) : Prop := Exa Z h a "java/util/Collections$UnmodifiableMap"
theorem d55 : decode b5_ 21 = .ok (.return_, 1) := by decide +kernel
theorem pn_Collections_UnmodifiableMap671 : plainName "java/util/Collections$UnmodifiableMap" = true := by first | (simp [plainName, overriddenIn]; done) | decide +kernel
abbrev y4__init_ : MethodName := ⟨"java/util/Collections$UnmodifiableMap", "<init>", "(Ljava/util/Map;)V"⟩
def WS_r4__init_ (Z : State) (o0 : Addr) : List (Addr × Nat) := [(o0, (sl2 Z))]
def Q_r4__init_ (Z : State) (o0 o1 : Addr) (h0 : Heap) (n0 : Nat) (v : Option Value) (h : Heap) (L : List Loc) : Prop := v = none ∧ Fr n0 L ∧ KL h0 h (WS_r4__init_ Z o0) ∧ Fd2 Z h o0 (.ref o1)
theorem r4__init_ (l : Launch) (Z : State) (a0 : Array Value) (hw : HW Z a0) (ws : List Jvm.Cond) (o0 o1 : Addr) (h0 : Heap) (n0 : Nat) (Z0 : n0 ≤ h0.size) (F_o0_m : Fd2 Z h0 o0 .null) (E_o0 : Ex3 Z h0 o0) (g_o0 : n0 ≤ o0) :
    MF l Z y4__init_ b5_ 2 none ws ⟨1, 0, 0, 12⟩ #[(.ref o0), (.ref o1)] h0 (Q_r4__init_ Z o0 o1 h0 n0) := by
 refine own_body (plainFor_of_name pn_Collections_UnmodifiableMap671) (ef_0 o0 o1) (by decide) (by decide) ?_
 intro p e s m below meth c s₁ hx hby hml hown hnm hret hZ hh e0 X0
 have N0 := Fr.nil n0
 obtain ⟨T1, X1, e1, st1⟩ := initO X0 hx hZ hown (w170 hw) (w13 hw) (w14 hw) e0 (g := (mkF m 1 #[vr o0, vr o1] [(.ref o0)])) rfl hml.symm rfl (hb hby d49) (by decide) (W := 0) (own_wr rfl rfl) (by decide)
 obtain ⟨T2, h2, X2, e2, W2, st2⟩ := putF X1 hx hZ hown (host := "") (Or.inl (w171 hw)) Via.refl e1 F_o0_m E_o0 (Or.inr ⟨(w172 hw), rfl, hnm⟩) (w165 hw) (ty := (.object "java/util/Map")) (by decide) rfl rfl (g := (mkF m 18 #[vr o0, vr o1] [(.ref o1), (.ref o0)])) rfl rfl (hb hby d54)
 have K2 := KL.ofW W2
 have Fw2 : Fd2 Z h2 o0 (.ref o1) := Fld.same W2 F_o0_m
 have N2 := Fr.snoc X2 N0 g_o0
 have C0 := (KL.refl h0 (WS_r4__init_ Z o0)).trans K2 (naO (own_mi 0 rfl) na0)
 refine ⟨T2, _, none, X2, (fun h => by cases h <;> rfl), ?_, fun fs hr => ?_⟩
 · show Q_r4__init_ Z o0 o1 h0 n0 _ T2.heap _
   rw [e2]
   exact ⟨rfl, N2, C0, Fw2⟩
 refine t_aloadN 1 X0.here hx hby d48 rfl rfl rfl ?_
 refine st1 _ ?_
 refine t_aloadN 5 X1.here hx hby d50 rfl rfl rfl ?_
 refine t_ifnonnullYes (pc := 5) 16 X1.here hx hby d51 (by decide) (by decide) ?_
 refine t_aloadN 17 X1.here hx hby d52 rfl rfl rfl ?_
 refine t_aloadN 18 X1.here hx hby d53 rfl rfl rfl ?_
 refine st2 _ ?_
 exact X2.returnOut hx hret (hb hby d55) hr
def w169 (hw : HW Z a0) := ow 169 hw rfl
theorem pd_2 : parseMethodDescriptor "(Ljava/util/Map;)V" = some ⟨[(.object "java/util/Map")], none⟩ := by decide +kernel
def w168 (hw : HW Z a0) := ow 168 hw rfl
theorem d56 : decode b4_ 21 = .ok (.areturn, 1) := by decide +kernel
abbrev y5_unmodifiableMap : MethodName := ⟨"java/util/Collections", "unmodifiableMap", "(Ljava/util/Map;)Ljava/util/Map;"⟩
def Q_r_unm1 (Z : State) (o0 m_LM : Addr) (h0 : Heap) (n0 : Nat) (v : Option Value) (h : Heap) (L : List Loc) : Prop := v = some (.ref o0) ∧ Fr n0 L ∧ h = h0
theorem r_unm1 (l : Launch) (Z : State) (a0 : Array Value) (hw : HW Z a0) (ws : List Jvm.Cond) (o0 m_LM : Addr) (h0 : Heap) (n0 : Nat) (Z0 : n0 ≤ h0.size) (E_o0 : Ex2 Z h0 o0) (M_java_util_LinkedHashMap : OMir Z "java/util/LinkedHashMap" m_LM) (M_java_util_Collections_UnmodifiableMap : OMir Z "java/util/Collections$UnmodifiableMap" m_LM) :
    MF l Z y5_unmodifiableMap b4_ 1 (some (.object "java/util/Map")) ws ⟨2, 1, 4, 26⟩ #[(.ref o0)] h0 (Q_r_unm1 Z o0 m_LM h0 n0) := by
 refine own_bodyM (y := y5_unmodifiableMap) (k := 0) (n := 0) (plainFor_of_name pn_Collections115) (ef_1 o0) (by decide) (by decide) ?_
 intro p e s m below meth c s₁ hx hby hml hown hnm hret hZ hh e0 X0
 have N0 := Fr.nil n0
 obtain ⟨T1, X1, e1, st1⟩ := own_gclsI X0 hx hZ hown (w157 hw) (w114 hw) (own_mvI hZ (w158 hw)) (w159 hw) (w117 hw) (w118 hw) (w160 hw) (w161 hw) (w121 hw) (by decide) (by decide) e0 E_o0 M_java_util_LinkedHashMap (g := (mkF m 1 #[vr o0] [(.ref o0)])) rfl hml.symm rfl (hb hby d39) (by decide) (W := 0) (own_wr rfl rfl) (by decide)
 obtain ⟨T2, X2, e2, st2⟩ := own_ldcM X1 hx hZ hown (w163 hw) M_java_util_Collections_UnmodifiableMap e1 (g := (mkF m 6 #[vr o0] [(.ref m_LM)])) rfl (hb hby d40)
 refine ⟨T2, _, some (.ref o0), X2, (fun h => by cases h <;> rfl), ?_, fun fs hr => ?_⟩
 · show Q_r_unm1 Z o0 m_LM h0 n0 _ T2.heap _
   rw [e2]
   exact ⟨rfl, N0, rfl⟩
 refine t_aloadN 1 X0.here hx hby d38 rfl rfl rfl ?_
 refine st1 _ ?_
 refine st2 _ ?_
 refine Jvm.RoadKit.acmp (g := (mkF m 8 #[vr o0] [(.ref m_LM), (.ref m_LM)])) X2 hx rfl rfl rfl (pc0 := 8) (pc' := 11) (same := true) rfl (hb hby d41) rfl (decide_eq_true rfl) (by decide) (by decide) ?_
 refine t_aloadN 12 X2.here hx hby d42 rfl rfl rfl ?_
 jvm_step X2.here [X2.here.top, hx, (hb hby d43), X2.method', hret, Value.isRef, FieldType.isReference]
 first | (intro acts; rw [hr _ acts rfl rfl rfl]) | rw [hr _ _ rfl rfl rfl]
 exact Steps.refl _
def Q_r_unm2 (Z : State) (o0 m_LM m_UM : Addr) (h0 : Heap) (n0 : Nat) (v : Option Value) (h : Heap) (L : List Loc) : Prop := ∃ b3 : Addr, v = some (.ref b3) ∧ Fr n0 L ∧ KL h0 h [] ∧ h0.size ≤ b3 ∧ Ex3 Z h b3 ∧ Fd2 Z h b3 (.ref o0)
theorem r_unm2 (l : Launch) (Z : State) (a0 : Array Value) (hw : HW Z a0) (ws : List Jvm.Cond) (o0 m_LM m_UM : Addr) (h0 : Heap) (n0 : Nat) (Z0 : n0 ≤ h0.size) (E_o0 : Ex2 Z h0 o0) (M_java_util_LinkedHashMap : OMir Z "java/util/LinkedHashMap" m_LM) (M_java_util_Collections_UnmodifiableMap : OMir Z "java/util/Collections$UnmodifiableMap" m_UM) (ne_m_LM_m_UM : m_LM ≠ m_UM) :
    MF l Z y5_unmodifiableMap b4_ 1 (some (.object "java/util/Map")) ws ⟨2, 1, 4, 26⟩ #[(.ref o0)] h0 (Q_r_unm2 Z o0 m_LM m_UM h0 n0) := by
 refine own_body (plainFor_of_name pn_Collections115) (ef_1 o0) (by decide) (by decide) ?_
 intro p e s m below meth c s₁ hx hby hml hown hnm hret hZ hh e0 X0
 have N0 := Fr.nil n0
 obtain ⟨T1, X1, e1, st1⟩ := own_gclsI X0 hx hZ hown (w157 hw) (w114 hw) (own_mvI hZ (w158 hw)) (w159 hw) (w117 hw) (w118 hw) (w160 hw) (w161 hw) (w121 hw) (by decide) (by decide) e0 E_o0 M_java_util_LinkedHashMap (g := (mkF m 1 #[vr o0] [(.ref o0)])) rfl hml.symm rfl (hb hby d39) (by decide) (W := 0) (own_wr rfl rfl) (by decide)
 obtain ⟨T2, X2, e2, st2⟩ := own_ldcM X1 hx hZ hown (w163 hw) M_java_util_Collections_UnmodifiableMap e1 (g := (mkF m 6 #[vr o0] [(.ref m_LM)])) rfl (hb hby d40)
 obtain ⟨T3, h3, X3, e3, E3, A3, D3, -, st3⟩ := newO X2 hx hZ hown (w163 hw) (w165 hw) (w166 hw) e2 (g := (mkF m 13 #[vr o0] [])) rfl (hb hby d44) (by decide) (by decide)
 obtain ⟨b3, g3⟩ : ∃ z, z = h0.size := ⟨_, rfl⟩
 rw [← g3] at A3 D3 st3
 have ge_b3 : h0.size ≤ b3 := Nat.le_of_eq g3.symm
 have K3 := KL.ofE E3
 have F_b3_m : Fd2 Z h3 b3 .null := D3 (Or.inr (w172 hw)) (ty := (.object "java/util/Map")) (by decide)
 have gg5 := Nat.le_trans Z0 ge_b3
 obtain ⟨_, T4, L4, X4, hQ4, st4⟩ := own_init X3 hx hZ rfl hown (w167 hw) (w168 hw) (w166 hw) (w169 hw) (by decide) (r4__init_ l Z a0 hw [] b3 o0 h3 n0 (Nat.le_trans Z0 K3.1) F_b3_m A3 gg5) e3 (W := 1) (by decide) (g := (mkF m 18 #[vr o0] [(.ref o0), (.ref b3), (.ref b3)])) rfl hml.symm (argsL := [(.ref o0)]) (rest := [(.ref b3)]) (lenOf pd_2 rfl) rfl rfl (own_wr rfl rfl) (hb hby d47)
 obtain ⟨rfl, N4q, K4, Q4_0⟩ := hQ4
 have N4 := Fr.app N0 N4q
 have C0 := (KL.refl h0 []).trans K3 na0
 have C1 := C0.trans K4 (naO (Or.inr ge_b3) na0)
 have f6 := (kExa K4 A3)
 refine ⟨T4, _, some (.ref b3), X4, (fun h => by cases h <;> rfl), ?_, fun fs hr => ?_⟩
 · show Q_r_unm2 Z o0 m_LM m_UM h0 n0 _ T4.heap _
   exact ⟨b3, rfl, N4, C1, ge_b3, f6, Q4_0⟩
 refine t_aloadN 1 X0.here hx hby d38 rfl rfl rfl ?_
 refine st1 _ ?_
 refine st2 _ ?_
 refine Jvm.RoadKit.acmp (g := (mkF m 8 #[vr o0] [(.ref m_UM), (.ref m_LM)])) X2 hx rfl rfl rfl (pc0 := 8) (pc' := 13) (same := false) rfl (hb hby d41) rfl (decide_eq_false fun q => absurd (Value.ref.inj q) ne_m_LM_m_UM) (by decide) (by decide) ?_
 refine st3 _ ?_
 refine t_dup 17 X3.here hx hby d45 rfl rfl ?_
 refine t_aloadN 18 X3.here hx hby d46 rfl rfl rfl ?_
 refine st4 _ ?_
 jvm_step X4.here [X4.here.top, hx, (hb hby d56), X4.method', hret, Value.isRef, FieldType.isReference]
 first | (intro acts; rw [hr _ acts rfl rfl rfl]) | rw [hr _ _ rfl rfl rfl]
 exact Steps.refl _
theorem r_unm (l : Launch) (Z : State) (a0 : Array Value) (hw : HW Z a0) (ws : List Jvm.Cond) (o0 m_LM m_UM : Addr) (h0 : Heap) (n0 : Nat) (Z0 : n0 ≤ h0.size) (E_o0 : Ex2 Z h0 o0) (M_java_util_LinkedHashMap : OMir Z "java/util/LinkedHashMap" m_LM) (M_java_util_Collections_UnmodifiableMap : OMir Z "java/util/Collections$UnmodifiableMap" m_UM) :
    MF l Z y5_unmodifiableMap b4_ 1 (some (.object "java/util/Map")) ws ⟨2, 1, 4, 26⟩ #[(.ref o0)] h0 (Q_unm h0 n0) := by
  by_cases ne_m_LM_m_UM : m_LM = m_UM
  · subst ne_m_LM_m_UM
    exact own_impP (r_unm1 l Z a0 hw ws o0 m_LM h0 n0 Z0 E_o0 M_java_util_LinkedHashMap M_java_util_Collections_UnmodifiableMap) fun v h L ⟨q1, q2, q3⟩ => ⟨o0, q1, q2, (by rw [q3]; exact KL.refl _ _), (by rw [q3]; exact Exa.lt E_o0)⟩
  ·
      exact own_impP (r_unm2 l Z a0 hw ws o0 m_LM m_UM h0 n0 Z0 E_o0 M_java_util_LinkedHashMap M_java_util_Collections_UnmodifiableMap ne_m_LM_m_UM) fun v h L ⟨b3, qv, qN, qK, q0, q1, q2⟩ => ⟨b3, qv, qN, qK, Exa.lt q1⟩
abbrev b6_ := jdk_42_method_66_code
theorem d57 : decode b6_ 0 = .ok (.aload_n 0, 1) := by decide +kernel
theorem d58 : decode b6_ 1 = .ok (.aload_n 1, 1) := by decide +kernel
theorem d59 : decode b6_ 2 = .ok (.if_acmp .ne 5, 3) := by decide +kernel
theorem d60 : decode b6_ 7 = .ok (.aload_n 1, 1) := by decide +kernel
theorem d61 : decode b6_ 8 = .ok (.instanceof 10, 3) := by decide +kernel
abbrev Ex4 (Z : State) (h : Heap) (a : Addr) : Prop := Exa Z h a "java/lang/String"
def w337 (hw : HW Z a0) := ow 337 hw rfl
theorem d62 : decode b6_ 11 = .ok (.ifCond .eq 43, 3) := by decide +kernel
theorem d63 : decode b6_ 14 = .ok (.aload_n 1, 1) := by decide +kernel
theorem d64 : decode b6_ 15 = .ok (.checkcast 10, 3) := by decide +kernel
theorem d65 : decode b6_ 18 = .ok (.astore_n 2, 1) := by decide +kernel
theorem d66 : decode b6_ 19 = .ok (.getstatic 38, 3) := by decide +kernel
def w15 (hw : HW Z a0) := ow 15 hw rfl
theorem d67 : decode b6_ 22 = .ok (.ifCond .eq 14, 3) := by decide +kernel
theorem d68 : decode b6_ 25 = .ok (.aload_n 0, 1) := by decide +kernel
theorem d69 : decode b6_ 26 = .ok (.getfield 15, 3) := by decide +kernel
def w27 (hw : HW Z a0) := ow 27 hw rfl
abbrev Fd3 (Z : State) (h : Heap) (a : Addr) (v : Value) : Prop := Fld Z h a "java/lang/String" "coder" "B" v
abbrev sl3 (Z : State) : Nat := Jvm.RoadKit.slotOf Z "java/lang/String" "coder" "B"
theorem d70 : decode b6_ 29 = .ok (.aload_n 2, 1) := by decide +kernel
theorem d71 : decode b6_ 30 = .ok (.getfield 15, 3) := by decide +kernel
theorem d72 : decode b6_ 33 = .ok (.if_icmp .ne 21, 3) := by decide +kernel
theorem d73 : decode b6_ 36 = .ok (.aload_n 0, 1) := by decide +kernel
theorem d74 : decode b6_ 37 = .ok (.getfield 9, 3) := by decide +kernel
def w29 (hw : HW Z a0) := ow 29 hw rfl
abbrev Fd4 (Z : State) (h : Heap) (a : Addr) (v : Value) : Prop := Fld Z h a "java/lang/String" "value" "[B" v
abbrev sl4 (Z : State) : Nat := Jvm.RoadKit.slotOf Z "java/lang/String" "value" "[B"
theorem d75 : decode b6_ 40 = .ok (.aload_n 2, 1) := by decide +kernel
theorem d76 : decode b6_ 41 = .ok (.getfield 9, 3) := by decide +kernel
theorem d77 : decode b6_ 44 = .ok (.invokestatic 541, 3) := by decide +kernel
def w338 (hw : HW Z a0) := ow 338 hw rfl
abbrev b7_ := jdk_43_method_13_code
theorem d78 : decode b7_ 0 = .ok (.aload_n 0, 1) := by decide +kernel
theorem d79 : decode b7_ 1 = .ok (.arraylength, 1) := by decide +kernel
theorem d80 : decode b7_ 2 = .ok (.aload_n 1, 1) := by decide +kernel
theorem d81 : decode b7_ 3 = .ok (.arraylength, 1) := by decide +kernel
theorem d82 : decode b7_ 4 = .ok (.if_icmp .ne 30, 3) := by decide +kernel
theorem d83 : decode b7_ 7 = .ok (.iconst 0, 1) := by decide +kernel
theorem d84 : decode b7_ 8 = .ok (.istore_n 2, 1) := by decide +kernel
theorem d85 : decode b7_ 9 = .ok (.iload_n 2, 1) := by decide +kernel
theorem d86 : decode b7_ 10 = .ok (.aload_n 0, 1) := by decide +kernel
theorem d87 : decode b7_ 11 = .ok (.arraylength, 1) := by decide +kernel
theorem d88 : decode b7_ 12 = .ok (.if_icmp .ge 20, 3) := by decide +kernel
theorem d89 : decode b7_ 15 = .ok (.aload_n 0, 1) := by decide +kernel
theorem d90 : decode b7_ 16 = .ok (.iload_n 2, 1) := by decide +kernel
theorem d91 : decode b7_ 17 = .ok (.baload, 1) := by decide +kernel
theorem d92 : decode b7_ 18 = .ok (.aload_n 1, 1) := by decide +kernel
theorem d93 : decode b7_ 19 = .ok (.iload_n 2, 1) := by decide +kernel
theorem d94 : decode b7_ 20 = .ok (.baload, 1) := by decide +kernel
theorem d95 : decode b7_ 21 = .ok (.if_icmp .eq 5, 3) := by decide +kernel
theorem d96 : decode b7_ 26 = .ok (.iinc 2 1, 3) := by decide +kernel
theorem d97 : decode b7_ 29 = .ok (.goto (-20), 3) := by decide +kernel
theorem d98 : decode b7_ 32 = .ok (.iconst 1, 1) := by decide +kernel
theorem d99 : decode b7_ 33 = .ok (.ireturn, 1) := by decide +kernel
theorem ef_2 (x0 x1 : Addr) (m : MethodId) : entryFrame m #[(.ref x0), (.ref x1)] 3 = mkF m 0 #[.val (.ref x0), .val (.ref x1), .unset] [] := by first | (simp [entryFrame, mkF, argsToLocals, Value.category]; done) | rfl
theorem pn_StringLatin1120 : plainName "java/lang/StringLatin1" = true := by first | (simp [plainName, overriddenIn]; done) | decide +kernel
abbrev y6_equals : MethodName := ⟨"java/lang/StringLatin1", "equals", "([B[B)Z"⟩
def Q_r5_equals (Z : State) (o0 o1 : Addr) (k_o0 k_o1 : ClassId) (h0 : Heap) (n0 : Nat) (v : Option Value) (h : Heap) (L : List Loc) : Prop := v = some (.int 1) ∧ Fr n0 L ∧ h = h0
theorem r5_equals (l : Launch) (Z : State) (a0 : Array Value) (hw : HW Z a0) (ws : List Jvm.Cond) (o0 o1 : Addr) (k_o0 k_o1 : ClassId) (h0 : Heap) (n0 : Nat) (Z0 : n0 ≤ h0.size) (V_o0 : Arv Z h0 o0 k_o0 .byte 9 [(.int 115), (.int 105), (.int 110), (.int 103), (.int 108), (.int 101), (.int 116), (.int 111), (.int 110)] z0) (V_o1 : Arv Z h0 o1 k_o1 .byte 9 [(.int 115), (.int 105), (.int 110), (.int 103), (.int 108), (.int 101), (.int 116), (.int 111), (.int 110)] z0) :
    MF l Z y6_equals b7_ 3 (some .boolean) ws ⟨0, 0, 0, 0⟩ #[(.ref o0), (.ref o1)] h0 (Q_r5_equals Z o0 o1 k_o0 k_o1 h0 n0) := by
 refine own_body (plainFor_of_name pn_StringLatin1120) (ef_2 o0 o1) (by decide) (by decide) ?_
 intro p e s m below meth c s₁ hx hby hml hown hnm hret hZ hh e0 X0
 have N0 := Fr.nil n0
 refine ⟨s₁, _, some (.int 1), X0, (fun h => by cases h <;> rfl), ?_, fun fs hr => ?_⟩
 · show Q_r5_equals Z o0 o1 k_o0 k_o1 h0 n0 _ s₁.heap _
   rw [e0]
   exact ⟨rfl, N0, rfl⟩
 refine t_aloadN 1 X0.here hx hby d78 rfl rfl rfl ?_
 refine own_arlen (pc' := 2) X0 hx hZ e0 V_o0 (hb hby d79) rfl ?_
 refine t_aloadN 3 X0.here hx hby d80 rfl rfl rfl ?_
 refine own_arlen (pc' := 4) X0 hx hZ e0 V_o1 (hb hby d81) rfl ?_
 refine t_icmpNo 7 X0.here hx hby d82 (by decide) rfl ?_
 refine t_iconst 8 (r := 0) X0.here hx hby d83 (by decide) rfl ?_
 refine t_istoreN (pc' := 9) (L' := #[vr o0, vr o1, vi 0]) X0.here hx hby d84 rfl rfl ?_
 refine t_iloadN 10 X0.here hx hby d85 rfl rfl ?_
 refine t_aloadN 11 X0.here hx hby d86 rfl rfl rfl ?_
 refine own_arlen (pc' := 12) X0 hx hZ e0 V_o0 (hb hby d87) rfl ?_
 refine t_icmpNo 15 X0.here hx hby d88 (by decide) rfl ?_
 refine t_aloadN 16 X0.here hx hby d89 rfl rfl rfl ?_
 refine t_iloadN 17 X0.here hx hby d90 rfl rfl ?_
 refine own_aldB (pc' := 18) X0 hx hZ e0 V_o0 (j := 0) (v := (.int 115)) (by decide) rfl (hb hby d91) rfl ?_
 refine t_aloadN 19 X0.here hx hby d92 rfl rfl rfl ?_
 refine t_iloadN 20 X0.here hx hby d93 rfl rfl ?_
 refine own_aldB (pc' := 21) X0 hx hZ e0 V_o1 (j := 0) (v := (.int 115)) (by decide) rfl (hb hby d94) rfl ?_
 refine t_icmpYes (pc := 21) 26 X0.here hx hby d95 (by decide) (by decide) (by decide) ?_
 refine t_iinc (pc' := 29) (L' := #[vr o0, vr o1, vi 1]) X0.here hx hby d96 rfl (by first | rfl | decide) rfl ?_
 refine t_goto (pc := 29) 9 X0.here hx hby d97 (by decide) (by decide) ?_
 refine t_iloadN 10 X0.here hx hby d85 rfl rfl ?_
 refine t_aloadN 11 X0.here hx hby d86 rfl rfl rfl ?_
 refine own_arlen (pc' := 12) X0 hx hZ e0 V_o0 (hb hby d87) rfl ?_
 refine t_icmpNo 15 X0.here hx hby d88 (by decide) rfl ?_
 refine t_aloadN 16 X0.here hx hby d89 rfl rfl rfl ?_
 refine t_iloadN 17 X0.here hx hby d90 rfl rfl ?_
 refine own_aldB (pc' := 18) X0 hx hZ e0 V_o0 (j := 1) (v := (.int 105)) (by decide) rfl (hb hby d91) rfl ?_
 refine t_aloadN 19 X0.here hx hby d92 rfl rfl rfl ?_
 refine t_iloadN 20 X0.here hx hby d93 rfl rfl ?_
 refine own_aldB (pc' := 21) X0 hx hZ e0 V_o1 (j := 1) (v := (.int 105)) (by decide) rfl (hb hby d94) rfl ?_
 refine t_icmpYes (pc := 21) 26 X0.here hx hby d95 (by decide) (by decide) (by decide) ?_
 refine t_iinc (pc' := 29) (L' := #[vr o0, vr o1, vi 2]) X0.here hx hby d96 rfl (by first | rfl | decide) rfl ?_
 refine t_goto (pc := 29) 9 X0.here hx hby d97 (by decide) (by decide) ?_
 refine t_iloadN 10 X0.here hx hby d85 rfl rfl ?_
 refine t_aloadN 11 X0.here hx hby d86 rfl rfl rfl ?_
 refine own_arlen (pc' := 12) X0 hx hZ e0 V_o0 (hb hby d87) rfl ?_
 refine t_icmpNo 15 X0.here hx hby d88 (by decide) rfl ?_
 refine t_aloadN 16 X0.here hx hby d89 rfl rfl rfl ?_
 refine t_iloadN 17 X0.here hx hby d90 rfl rfl ?_
 refine own_aldB (pc' := 18) X0 hx hZ e0 V_o0 (j := 2) (v := (.int 110)) (by decide) rfl (hb hby d91) rfl ?_
 refine t_aloadN 19 X0.here hx hby d92 rfl rfl rfl ?_
 refine t_iloadN 20 X0.here hx hby d93 rfl rfl ?_
 refine own_aldB (pc' := 21) X0 hx hZ e0 V_o1 (j := 2) (v := (.int 110)) (by decide) rfl (hb hby d94) rfl ?_
 refine t_icmpYes (pc := 21) 26 X0.here hx hby d95 (by decide) (by decide) (by decide) ?_
 refine t_iinc (pc' := 29) (L' := #[vr o0, vr o1, vi 3]) X0.here hx hby d96 rfl (by first | rfl | decide) rfl ?_
 refine t_goto (pc := 29) 9 X0.here hx hby d97 (by decide) (by decide) ?_
 refine t_iloadN 10 X0.here hx hby d85 rfl rfl ?_
 refine t_aloadN 11 X0.here hx hby d86 rfl rfl rfl ?_
 refine own_arlen (pc' := 12) X0 hx hZ e0 V_o0 (hb hby d87) rfl ?_
 refine t_icmpNo 15 X0.here hx hby d88 (by decide) rfl ?_
 refine t_aloadN 16 X0.here hx hby d89 rfl rfl rfl ?_
 refine t_iloadN 17 X0.here hx hby d90 rfl rfl ?_
 refine own_aldB (pc' := 18) X0 hx hZ e0 V_o0 (j := 3) (v := (.int 103)) (by decide) rfl (hb hby d91) rfl ?_
 refine t_aloadN 19 X0.here hx hby d92 rfl rfl rfl ?_
 refine t_iloadN 20 X0.here hx hby d93 rfl rfl ?_
 refine own_aldB (pc' := 21) X0 hx hZ e0 V_o1 (j := 3) (v := (.int 103)) (by decide) rfl (hb hby d94) rfl ?_
 refine t_icmpYes (pc := 21) 26 X0.here hx hby d95 (by decide) (by decide) (by decide) ?_
 refine t_iinc (pc' := 29) (L' := #[vr o0, vr o1, vi 4]) X0.here hx hby d96 rfl (by first | rfl | decide) rfl ?_
 refine t_goto (pc := 29) 9 X0.here hx hby d97 (by decide) (by decide) ?_
 refine t_iloadN 10 X0.here hx hby d85 rfl rfl ?_
 refine t_aloadN 11 X0.here hx hby d86 rfl rfl rfl ?_
 refine own_arlen (pc' := 12) X0 hx hZ e0 V_o0 (hb hby d87) rfl ?_
 refine t_icmpNo 15 X0.here hx hby d88 (by decide) rfl ?_
 refine t_aloadN 16 X0.here hx hby d89 rfl rfl rfl ?_
 refine t_iloadN 17 X0.here hx hby d90 rfl rfl ?_
 refine own_aldB (pc' := 18) X0 hx hZ e0 V_o0 (j := 4) (v := (.int 108)) (by decide) rfl (hb hby d91) rfl ?_
 refine t_aloadN 19 X0.here hx hby d92 rfl rfl rfl ?_
 refine t_iloadN 20 X0.here hx hby d93 rfl rfl ?_
 refine own_aldB (pc' := 21) X0 hx hZ e0 V_o1 (j := 4) (v := (.int 108)) (by decide) rfl (hb hby d94) rfl ?_
 refine t_icmpYes (pc := 21) 26 X0.here hx hby d95 (by decide) (by decide) (by decide) ?_
 refine t_iinc (pc' := 29) (L' := #[vr o0, vr o1, vi 5]) X0.here hx hby d96 rfl (by first | rfl | decide) rfl ?_
 refine t_goto (pc := 29) 9 X0.here hx hby d97 (by decide) (by decide) ?_
 refine t_iloadN 10 X0.here hx hby d85 rfl rfl ?_
 refine t_aloadN 11 X0.here hx hby d86 rfl rfl rfl ?_
 refine own_arlen (pc' := 12) X0 hx hZ e0 V_o0 (hb hby d87) rfl ?_
 refine t_icmpNo 15 X0.here hx hby d88 (by decide) rfl ?_
 refine t_aloadN 16 X0.here hx hby d89 rfl rfl rfl ?_
 refine t_iloadN 17 X0.here hx hby d90 rfl rfl ?_
 refine own_aldB (pc' := 18) X0 hx hZ e0 V_o0 (j := 5) (v := (.int 101)) (by decide) rfl (hb hby d91) rfl ?_
 refine t_aloadN 19 X0.here hx hby d92 rfl rfl rfl ?_
 refine t_iloadN 20 X0.here hx hby d93 rfl rfl ?_
 refine own_aldB (pc' := 21) X0 hx hZ e0 V_o1 (j := 5) (v := (.int 101)) (by decide) rfl (hb hby d94) rfl ?_
 refine t_icmpYes (pc := 21) 26 X0.here hx hby d95 (by decide) (by decide) (by decide) ?_
 refine t_iinc (pc' := 29) (L' := #[vr o0, vr o1, vi 6]) X0.here hx hby d96 rfl (by first | rfl | decide) rfl ?_
 refine t_goto (pc := 29) 9 X0.here hx hby d97 (by decide) (by decide) ?_
 refine t_iloadN 10 X0.here hx hby d85 rfl rfl ?_
 refine t_aloadN 11 X0.here hx hby d86 rfl rfl rfl ?_
 refine own_arlen (pc' := 12) X0 hx hZ e0 V_o0 (hb hby d87) rfl ?_
 refine t_icmpNo 15 X0.here hx hby d88 (by decide) rfl ?_
 refine t_aloadN 16 X0.here hx hby d89 rfl rfl rfl ?_
 refine t_iloadN 17 X0.here hx hby d90 rfl rfl ?_
 refine own_aldB (pc' := 18) X0 hx hZ e0 V_o0 (j := 6) (v := (.int 116)) (by decide) rfl (hb hby d91) rfl ?_
 refine t_aloadN 19 X0.here hx hby d92 rfl rfl rfl ?_
 refine t_iloadN 20 X0.here hx hby d93 rfl rfl ?_
 refine own_aldB (pc' := 21) X0 hx hZ e0 V_o1 (j := 6) (v := (.int 116)) (by decide) rfl (hb hby d94) rfl ?_
 refine t_icmpYes (pc := 21) 26 X0.here hx hby d95 (by decide) (by decide) (by decide) ?_
 refine t_iinc (pc' := 29) (L' := #[vr o0, vr o1, vi 7]) X0.here hx hby d96 rfl (by first | rfl | decide) rfl ?_
 refine t_goto (pc := 29) 9 X0.here hx hby d97 (by decide) (by decide) ?_
 refine t_iloadN 10 X0.here hx hby d85 rfl rfl ?_
 refine t_aloadN 11 X0.here hx hby d86 rfl rfl rfl ?_
 refine own_arlen (pc' := 12) X0 hx hZ e0 V_o0 (hb hby d87) rfl ?_
 refine t_icmpNo 15 X0.here hx hby d88 (by decide) rfl ?_
 refine t_aloadN 16 X0.here hx hby d89 rfl rfl rfl ?_
 refine t_iloadN 17 X0.here hx hby d90 rfl rfl ?_
 refine own_aldB (pc' := 18) X0 hx hZ e0 V_o0 (j := 7) (v := (.int 111)) (by decide) rfl (hb hby d91) rfl ?_
 refine t_aloadN 19 X0.here hx hby d92 rfl rfl rfl ?_
 refine t_iloadN 20 X0.here hx hby d93 rfl rfl ?_
 refine own_aldB (pc' := 21) X0 hx hZ e0 V_o1 (j := 7) (v := (.int 111)) (by decide) rfl (hb hby d94) rfl ?_
 refine t_icmpYes (pc := 21) 26 X0.here hx hby d95 (by decide) (by decide) (by decide) ?_
 refine t_iinc (pc' := 29) (L' := #[vr o0, vr o1, vi 8]) X0.here hx hby d96 rfl (by first | rfl | decide) rfl ?_
 refine t_goto (pc := 29) 9 X0.here hx hby d97 (by decide) (by decide) ?_
 refine t_iloadN 10 X0.here hx hby d85 rfl rfl ?_
 refine t_aloadN 11 X0.here hx hby d86 rfl rfl rfl ?_
 refine own_arlen (pc' := 12) X0 hx hZ e0 V_o0 (hb hby d87) rfl ?_
 refine t_icmpNo 15 X0.here hx hby d88 (by decide) rfl ?_
 refine t_aloadN 16 X0.here hx hby d89 rfl rfl rfl ?_
 refine t_iloadN 17 X0.here hx hby d90 rfl rfl ?_
 refine own_aldB (pc' := 18) X0 hx hZ e0 V_o0 (j := 8) (v := (.int 110)) (by decide) rfl (hb hby d91) rfl ?_
 refine t_aloadN 19 X0.here hx hby d92 rfl rfl rfl ?_
 refine t_iloadN 20 X0.here hx hby d93 rfl rfl ?_
 refine own_aldB (pc' := 21) X0 hx hZ e0 V_o1 (j := 8) (v := (.int 110)) (by decide) rfl (hb hby d94) rfl ?_
 refine t_icmpYes (pc := 21) 26 X0.here hx hby d95 (by decide) (by decide) (by decide) ?_
 refine t_iinc (pc' := 29) (L' := #[vr o0, vr o1, vi 9]) X0.here hx hby d96 rfl (by first | rfl | decide) rfl ?_
 refine t_goto (pc := 29) 9 X0.here hx hby d97 (by decide) (by decide) ?_
 refine t_iloadN 10 X0.here hx hby d85 rfl rfl ?_
 refine t_aloadN 11 X0.here hx hby d86 rfl rfl rfl ?_
 refine own_arlen (pc' := 12) X0 hx hZ e0 V_o0 (hb hby d87) rfl ?_
 refine t_icmpYes (pc := 12) 32 X0.here hx hby d88 (by decide) (by decide) (by decide) ?_
 refine t_iconst 33 (r := 1) X0.here hx hby d98 (by decide) rfl ?_
 exact retN X0 hx (t := .boolean) hret (by simp) (hb hby d99) hr
def w340 (hw : HW Z a0) := ow 340 hw rfl
def w281 (hw : HW Z a0) := ow 281 hw rfl
theorem pd_3 : parseMethodDescriptor "([B[B)Z" = some ⟨[(.array .byte), (.array .byte)], some .boolean⟩ := by decide +kernel
def w339 (hw : HW Z a0) := ow 339 hw rfl
theorem d100 : decode b6_ 47 = .ok (.ifCond .eq 7, 3) := by decide +kernel
theorem d101 : decode b6_ 50 = .ok (.iconst 1, 1) := by decide +kernel
theorem d102 : decode b6_ 51 = .ok (.goto 4, 3) := by decide +kernel
theorem d103 : decode b6_ 55 = .ok (.ireturn, 1) := by decide +kernel
theorem pn_String564 : plainName "java/lang/String" = true := by first | (simp [plainName, overriddenIn]; done) | decide +kernel
abbrev y7_equals : MethodName := ⟨"java/lang/String", "equals", "(Ljava/lang/Object;)Z"⟩
def Q_r_eqs_n (Z : State) (o0 o1 v0 v1 : Addr) (cs : Int32) (k_v0 k_v1 : ClassId) (h0 : Heap) (n0 : Nat) (v : Option Value) (h : Heap) (L : List Loc) : Prop := v = some (.int 1) ∧ Fr n0 L ∧ h = h0
theorem r_eqs_n (l : Launch) (Z : State) (a0 : Array Value) (hw : HW Z a0) (ws : List Jvm.Cond) (o0 o1 v0 v1 : Addr) (cs : Int32) (k_v0 k_v1 : ClassId) (h0 : Heap) (n0 : Nat) (Z0 : n0 ≤ h0.size) (hcs : ¬ (cs = (0 : Int32))) (ne_o0_o1 : o0 ≠ o1) (E_o1 : Ex4 Z h0 o1) (sCS : SCS Z cs) (O0 : Old Z n0 h0) (F_o0_coder : Fd3 Z h0 o0 z0) (F_o1_coder : Fd3 Z h0 o1 z0) (F_o0_value : Fd4 Z h0 o0 (.ref v0)) (F_o1_value : Fd4 Z h0 o1 (.ref v1)) (V_v0 : Arv Z h0 v0 k_v0 .byte 9 [(.int 115), (.int 105), (.int 110), (.int 103), (.int 108), (.int 101), (.int 116), (.int 111), (.int 110)] z0) (V_v1 : Arv Z h0 v1 k_v1 .byte 9 [(.int 115), (.int 105), (.int 110), (.int 103), (.int 108), (.int 101), (.int 116), (.int 111), (.int 110)] z0) :
    MF l Z y7_equals b6_ 3 (some .boolean) ws ⟨2, 0, 0, 40⟩ #[(.ref o0), (.ref o1)] h0 (Q_r_eqs_n Z o0 o1 v0 v1 cs k_v0 k_v1 h0 n0) := by
 refine own_body (plainFor_of_name pn_String564) (ef_2 o0 o1) (by decide) (by decide) ?_
 intro p e s m below meth c s₁ hx hby hml hown hnm hret hZ hh e0 X0
 have N0 := Fr.nil n0
 obtain ⟨T1, X1, e1, st1⟩ := instY X0 hx hZ hown (w337 hw) e0 (Ins.self E_o1) (g := (mkF m 8 #[vr o0, vr o1, .unset] [(.ref o1)])) rfl rfl (hb hby d61)
 obtain ⟨T2, X2, e2, st2⟩ := castY X1 hx hZ hown (w337 hw) e1 (Ins.self E_o1) (g := (mkF m 15 #[vr o0, vr o1, .unset] [(.ref o1)])) rfl rfl (hb hby d64)
 obtain ⟨T3, X3, e3, st3⟩ := getS2 X2 hx hZ hown (host := "") (Or.inl (w15 hw)) Via.refl e2 (Sta.ext O0.2 sCS) (g := (mkF m 19 #[vr o0, vr o1, vr o1] [])) rfl (hb hby d66)
 obtain ⟨T4, X4, e4, st4⟩ := getF X3 hx hZ hown (host := "") (Or.inl (w27 hw)) Via.refl e3 F_o0_coder (g := (mkF m 26 #[vr o0, vr o1, vr o1] [(.ref o0)])) rfl rfl (hb hby d69)
 obtain ⟨T5, X5, e5, st5⟩ := getF X4 hx hZ hown (host := "") (Or.inl (w27 hw)) Via.refl e4 F_o1_coder (g := (mkF m 30 #[vr o0, vr o1, vr o1] [(.ref o1), z0])) rfl rfl (hb hby d71)
 obtain ⟨T6, X6, e6, st6⟩ := getF X5 hx hZ hown (host := "") (Or.inl (w29 hw)) Via.refl e5 F_o0_value (g := (mkF m 37 #[vr o0, vr o1, vr o1] [(.ref o0)])) rfl rfl (hb hby d74)
 obtain ⟨T7, X7, e7, st7⟩ := getF X6 hx hZ hown (host := "") (Or.inl (w29 hw)) Via.refl e6 F_o1_value (g := (mkF m 41 #[vr o0, vr o1, vr o1] [(.ref o1), (.ref v0)])) rfl rfl (hb hby d76)
 obtain ⟨_, T8, L8, X8, hQ8, st8⟩ := own_static X7 hx hZ hown (w338 hw) (w339 hw) (w281 hw) (w340 hw) (by decide) (r5_equals l Z a0 hw [] v0 v1 k_v0 k_v1 h0 n0 Z0 V_v0 V_v1) e7 (W := 0) (by decide) (g := (mkF m 44 #[vr o0, vr o1, vr o1] [(.ref v1), (.ref v0)])) rfl hml.symm (argsL := [(.ref v0), (.ref v1)]) (rest := []) (lenOf pd_3 rfl) rfl rfl (own_wr rfl rfl) (hb hby d77)
 obtain ⟨rfl, N8q, e8⟩ := hQ8
 have N8 := Fr.app N0 N8q
 refine ⟨T8, _, some (.int 1), X8, (fun h => by cases h <;> rfl), ?_, fun fs hr => ?_⟩
 · show Q_r_eqs_n Z o0 o1 v0 v1 cs k_v0 k_v1 h0 n0 _ T8.heap _
   rw [e8]
   exact ⟨rfl, N8, rfl⟩
 refine t_aloadN 1 X0.here hx hby d57 rfl rfl rfl ?_
 refine t_aloadN 2 X0.here hx hby d58 rfl rfl rfl ?_
 refine Jvm.RoadKit.acmp (g := (mkF m 2 #[vr o0, vr o1, .unset] [(.ref o1), (.ref o0)])) X0 hx rfl rfl rfl (pc0 := 2) (pc' := 7) (same := false) rfl (hb hby d59) rfl (decide_eq_false fun q => absurd (Value.ref.inj q) ne_o0_o1) (by decide) (by decide) ?_
 refine t_aloadN 8 X0.here hx hby d60 rfl rfl rfl ?_
 refine st1 _ ?_
 refine t_ifNo 14 X1.here hx hby d62 (by decide) rfl ?_
 refine t_aloadN 15 X1.here hx hby d63 rfl rfl rfl ?_
 refine st2 _ ?_
 refine t_astoreN (pc' := 19) (L' := #[vr o0, vr o1, vr o1]) X2.here hx hby d65 rfl rfl rfl ?_
 refine st3 _ ?_
 refine t_ifNo 25 X3.here hx hby d67 ((if0 _ _).trans (feq hcs).1) rfl ?_
 refine t_aloadN 26 X3.here hx hby d68 rfl rfl rfl ?_
 refine st4 _ ?_
 refine t_aloadN 30 X4.here hx hby d70 rfl rfl rfl ?_
 refine st5 _ ?_
 refine t_icmpNo 36 X5.here hx hby d72 (by decide) rfl ?_
 refine t_aloadN 37 X5.here hx hby d73 rfl rfl rfl ?_
 refine st6 _ ?_
 refine t_aloadN 41 X6.here hx hby d75 rfl rfl rfl ?_
 refine st7 _ ?_
 refine st8 _ ?_
 refine t_ifNo 50 X8.here hx hby d100 (by decide) rfl ?_
 refine t_iconst 51 (r := 1) X8.here hx hby d101 (by decide) rfl ?_
 refine t_goto (pc := 51) 55 X8.here hx hby d102 (by decide) (by decide) ?_
 exact retN X8 hx (t := .boolean) hret (by simp) (hb hby d103) hr
theorem d104 : decode b6_ 5 = .ok (.iconst 1, 1) := by decide +kernel
theorem d105 : decode b6_ 6 = .ok (.ireturn, 1) := by decide +kernel
def Q_r_eqs_e (Z : State) (o0 : Addr) (h0 : Heap) (n0 : Nat) (v : Option Value) (h : Heap) (L : List Loc) : Prop := v = some (.int 1) ∧ Fr n0 L ∧ h = h0
theorem r_eqs_e (l : Launch) (Z : State) (a0 : Array Value) (hw : HW Z a0) (ws : List Jvm.Cond) (o0 : Addr) (h0 : Heap) (n0 : Nat) (Z0 : n0 ≤ h0.size) :
    MF l Z y7_equals b6_ 3 (some .boolean) ws ⟨2, 0, 0, 40⟩ #[(.ref o0), (.ref o0)] h0 (Q_r_eqs_e Z o0 h0 n0) := by
 refine own_body (plainFor_of_name pn_String564) (ef_2 o0 o0) (by decide) (by decide) ?_
 intro p e s m below meth c s₁ hx hby hml hown hnm hret hZ hh e0 X0
 have N0 := Fr.nil n0
 refine ⟨s₁, _, some (.int 1), X0, (fun h => by cases h <;> rfl), ?_, fun fs hr => ?_⟩
 · show Q_r_eqs_e Z o0 h0 n0 _ s₁.heap _
   rw [e0]
   exact ⟨rfl, N0, rfl⟩
 refine t_aloadN 1 X0.here hx hby d57 rfl rfl rfl ?_
 refine t_aloadN 2 X0.here hx hby d58 rfl rfl rfl ?_
 refine Jvm.RoadKit.acmp (g := (mkF m 2 #[vr o0, vr o0, .unset] [(.ref o0), (.ref o0)])) X0 hx rfl rfl rfl (pc0 := 2) (pc' := 5) (same := true) rfl (hb hby d59) rfl (decide_eq_true rfl) (by decide) (by decide) ?_
 refine t_iconst 6 (r := 1) X0.here hx hby d104 (by decide) rfl ?_
 exact retN X0 hx (t := .boolean) hret (by simp) (hb hby d105) hr
theorem r_eqs (l : Launch) (Z : State) (a0 : Array Value) (hw : HW Z a0) (ws : List Jvm.Cond) (o0 o1 v0 v1 : Addr) (cs : Int32) (k_v0 k_v1 : ClassId) (h0 : Heap) (n0 : Nat) (Z0 : n0 ≤ h0.size) (hcs : ¬ (cs = (0 : Int32))) (E_o1 : Ex4 Z h0 o1) (sCS : SCS Z cs) (O0 : Old Z n0 h0) (F_o0_coder : Fd3 Z h0 o0 z0) (F_o1_coder : Fd3 Z h0 o1 z0) (F_o0_value : Fd4 Z h0 o0 (.ref v0)) (F_o1_value : Fd4 Z h0 o1 (.ref v1)) (V_v0 : Arv Z h0 v0 k_v0 .byte 9 [(.int 115), (.int 105), (.int 110), (.int 103), (.int 108), (.int 101), (.int 116), (.int 111), (.int 110)] z0) (V_v1 : Arv Z h0 v1 k_v1 .byte 9 [(.int 115), (.int 105), (.int 110), (.int 103), (.int 108), (.int 101), (.int 116), (.int 111), (.int 110)] z0) :
    MF l Z y7_equals b6_ 3 (some .boolean) ws ⟨2, 0, 0, 40⟩ #[(.ref o0), (.ref o1)] h0 (Q_r_eqs_n Z o0 o1 v0 v1 cs k_v0 k_v1 h0 n0) := by
  by_cases ne_o0_o1 : o0 = o1
  · subst ne_o0_o1
    exact own_impP (r_eqs_e l Z a0 hw ws o0 h0 n0 Z0 ) fun v h L q => q
  · exact r_eqs_n l Z a0 hw ws o0 o1 v0 v1 cs k_v0 k_v1 h0 n0 Z0 hcs ne_o0_o1 E_o1 sCS O0 F_o0_coder F_o1_coder F_o0_value F_o1_value V_v0 V_v1
def Q_r6_equals (Z : State) (o0 o1 : Addr) (k_o0 k_o1 : ClassId) (h0 : Heap) (n0 : Nat) (v : Option Value) (h : Heap) (L : List Loc) : Prop := v = some (.int 1) ∧ Fr n0 L ∧ h = h0
theorem r6_equals (l : Launch) (Z : State) (a0 : Array Value) (hw : HW Z a0) (ws : List Jvm.Cond) (o0 o1 : Addr) (k_o0 k_o1 : ClassId) (h0 : Heap) (n0 : Nat) (Z0 : n0 ≤ h0.size) (V_o0 : Arv Z h0 o0 k_o0 .byte 9 [(.int 112), (.int 114), (.int 111), (.int 116), (.int 111), (.int 116), (.int 121), (.int 112), (.int 101)] z0) (V_o1 : Arv Z h0 o1 k_o1 .byte 9 [(.int 112), (.int 114), (.int 111), (.int 116), (.int 111), (.int 116), (.int 121), (.int 112), (.int 101)] z0) :
    MF l Z y6_equals b7_ 3 (some .boolean) ws ⟨0, 0, 0, 0⟩ #[(.ref o0), (.ref o1)] h0 (Q_r6_equals Z o0 o1 k_o0 k_o1 h0 n0) := by
 refine own_body (plainFor_of_name pn_StringLatin1120) (ef_2 o0 o1) (by decide) (by decide) ?_
 intro p e s m below meth c s₁ hx hby hml hown hnm hret hZ hh e0 X0
 have N0 := Fr.nil n0
 refine ⟨s₁, _, some (.int 1), X0, (fun h => by cases h <;> rfl), ?_, fun fs hr => ?_⟩
 · show Q_r6_equals Z o0 o1 k_o0 k_o1 h0 n0 _ s₁.heap _
   rw [e0]
   exact ⟨rfl, N0, rfl⟩
 refine t_aloadN 1 X0.here hx hby d78 rfl rfl rfl ?_
 refine own_arlen (pc' := 2) X0 hx hZ e0 V_o0 (hb hby d79) rfl ?_
 refine t_aloadN 3 X0.here hx hby d80 rfl rfl rfl ?_
 refine own_arlen (pc' := 4) X0 hx hZ e0 V_o1 (hb hby d81) rfl ?_
 refine t_icmpNo 7 X0.here hx hby d82 (by decide) rfl ?_
 refine t_iconst 8 (r := 0) X0.here hx hby d83 (by decide) rfl ?_
 refine t_istoreN (pc' := 9) (L' := #[vr o0, vr o1, vi 0]) X0.here hx hby d84 rfl rfl ?_
 refine t_iloadN 10 X0.here hx hby d85 rfl rfl ?_
 refine t_aloadN 11 X0.here hx hby d86 rfl rfl rfl ?_
 refine own_arlen (pc' := 12) X0 hx hZ e0 V_o0 (hb hby d87) rfl ?_
 refine t_icmpNo 15 X0.here hx hby d88 (by decide) rfl ?_
 refine t_aloadN 16 X0.here hx hby d89 rfl rfl rfl ?_
 refine t_iloadN 17 X0.here hx hby d90 rfl rfl ?_
 refine own_aldB (pc' := 18) X0 hx hZ e0 V_o0 (j := 0) (v := (.int 112)) (by decide) rfl (hb hby d91) rfl ?_
 refine t_aloadN 19 X0.here hx hby d92 rfl rfl rfl ?_
 refine t_iloadN 20 X0.here hx hby d93 rfl rfl ?_
 refine own_aldB (pc' := 21) X0 hx hZ e0 V_o1 (j := 0) (v := (.int 112)) (by decide) rfl (hb hby d94) rfl ?_
 refine t_icmpYes (pc := 21) 26 X0.here hx hby d95 (by decide) (by decide) (by decide) ?_
 refine t_iinc (pc' := 29) (L' := #[vr o0, vr o1, vi 1]) X0.here hx hby d96 rfl (by first | rfl | decide) rfl ?_
 refine t_goto (pc := 29) 9 X0.here hx hby d97 (by decide) (by decide) ?_
 refine t_iloadN 10 X0.here hx hby d85 rfl rfl ?_
 refine t_aloadN 11 X0.here hx hby d86 rfl rfl rfl ?_
 refine own_arlen (pc' := 12) X0 hx hZ e0 V_o0 (hb hby d87) rfl ?_
 refine t_icmpNo 15 X0.here hx hby d88 (by decide) rfl ?_
 refine t_aloadN 16 X0.here hx hby d89 rfl rfl rfl ?_
 refine t_iloadN 17 X0.here hx hby d90 rfl rfl ?_
 refine own_aldB (pc' := 18) X0 hx hZ e0 V_o0 (j := 1) (v := (.int 114)) (by decide) rfl (hb hby d91) rfl ?_
 refine t_aloadN 19 X0.here hx hby d92 rfl rfl rfl ?_
 refine t_iloadN 20 X0.here hx hby d93 rfl rfl ?_
 refine own_aldB (pc' := 21) X0 hx hZ e0 V_o1 (j := 1) (v := (.int 114)) (by decide) rfl (hb hby d94) rfl ?_
 refine t_icmpYes (pc := 21) 26 X0.here hx hby d95 (by decide) (by decide) (by decide) ?_
 refine t_iinc (pc' := 29) (L' := #[vr o0, vr o1, vi 2]) X0.here hx hby d96 rfl (by first | rfl | decide) rfl ?_
 refine t_goto (pc := 29) 9 X0.here hx hby d97 (by decide) (by decide) ?_
 refine t_iloadN 10 X0.here hx hby d85 rfl rfl ?_
 refine t_aloadN 11 X0.here hx hby d86 rfl rfl rfl ?_
 refine own_arlen (pc' := 12) X0 hx hZ e0 V_o0 (hb hby d87) rfl ?_
 refine t_icmpNo 15 X0.here hx hby d88 (by decide) rfl ?_
 refine t_aloadN 16 X0.here hx hby d89 rfl rfl rfl ?_
 refine t_iloadN 17 X0.here hx hby d90 rfl rfl ?_
 refine own_aldB (pc' := 18) X0 hx hZ e0 V_o0 (j := 2) (v := (.int 111)) (by decide) rfl (hb hby d91) rfl ?_
 refine t_aloadN 19 X0.here hx hby d92 rfl rfl rfl ?_
 refine t_iloadN 20 X0.here hx hby d93 rfl rfl ?_
 refine own_aldB (pc' := 21) X0 hx hZ e0 V_o1 (j := 2) (v := (.int 111)) (by decide) rfl (hb hby d94) rfl ?_
 refine t_icmpYes (pc := 21) 26 X0.here hx hby d95 (by decide) (by decide) (by decide) ?_
 refine t_iinc (pc' := 29) (L' := #[vr o0, vr o1, vi 3]) X0.here hx hby d96 rfl (by first | rfl | decide) rfl ?_
 refine t_goto (pc := 29) 9 X0.here hx hby d97 (by decide) (by decide) ?_
 refine t_iloadN 10 X0.here hx hby d85 rfl rfl ?_
 refine t_aloadN 11 X0.here hx hby d86 rfl rfl rfl ?_
 refine own_arlen (pc' := 12) X0 hx hZ e0 V_o0 (hb hby d87) rfl ?_
 refine t_icmpNo 15 X0.here hx hby d88 (by decide) rfl ?_
 refine t_aloadN 16 X0.here hx hby d89 rfl rfl rfl ?_
 refine t_iloadN 17 X0.here hx hby d90 rfl rfl ?_
 refine own_aldB (pc' := 18) X0 hx hZ e0 V_o0 (j := 3) (v := (.int 116)) (by decide) rfl (hb hby d91) rfl ?_
 refine t_aloadN 19 X0.here hx hby d92 rfl rfl rfl ?_
 refine t_iloadN 20 X0.here hx hby d93 rfl rfl ?_
 refine own_aldB (pc' := 21) X0 hx hZ e0 V_o1 (j := 3) (v := (.int 116)) (by decide) rfl (hb hby d94) rfl ?_
 refine t_icmpYes (pc := 21) 26 X0.here hx hby d95 (by decide) (by decide) (by decide) ?_
 refine t_iinc (pc' := 29) (L' := #[vr o0, vr o1, vi 4]) X0.here hx hby d96 rfl (by first | rfl | decide) rfl ?_
 refine t_goto (pc := 29) 9 X0.here hx hby d97 (by decide) (by decide) ?_
 refine t_iloadN 10 X0.here hx hby d85 rfl rfl ?_
 refine t_aloadN 11 X0.here hx hby d86 rfl rfl rfl ?_
 refine own_arlen (pc' := 12) X0 hx hZ e0 V_o0 (hb hby d87) rfl ?_
 refine t_icmpNo 15 X0.here hx hby d88 (by decide) rfl ?_
 refine t_aloadN 16 X0.here hx hby d89 rfl rfl rfl ?_
 refine t_iloadN 17 X0.here hx hby d90 rfl rfl ?_
 refine own_aldB (pc' := 18) X0 hx hZ e0 V_o0 (j := 4) (v := (.int 111)) (by decide) rfl (hb hby d91) rfl ?_
 refine t_aloadN 19 X0.here hx hby d92 rfl rfl rfl ?_
 refine t_iloadN 20 X0.here hx hby d93 rfl rfl ?_
 refine own_aldB (pc' := 21) X0 hx hZ e0 V_o1 (j := 4) (v := (.int 111)) (by decide) rfl (hb hby d94) rfl ?_
 refine t_icmpYes (pc := 21) 26 X0.here hx hby d95 (by decide) (by decide) (by decide) ?_
 refine t_iinc (pc' := 29) (L' := #[vr o0, vr o1, vi 5]) X0.here hx hby d96 rfl (by first | rfl | decide) rfl ?_
 refine t_goto (pc := 29) 9 X0.here hx hby d97 (by decide) (by decide) ?_
 refine t_iloadN 10 X0.here hx hby d85 rfl rfl ?_
 refine t_aloadN 11 X0.here hx hby d86 rfl rfl rfl ?_
 refine own_arlen (pc' := 12) X0 hx hZ e0 V_o0 (hb hby d87) rfl ?_
 refine t_icmpNo 15 X0.here hx hby d88 (by decide) rfl ?_
 refine t_aloadN 16 X0.here hx hby d89 rfl rfl rfl ?_
 refine t_iloadN 17 X0.here hx hby d90 rfl rfl ?_
 refine own_aldB (pc' := 18) X0 hx hZ e0 V_o0 (j := 5) (v := (.int 116)) (by decide) rfl (hb hby d91) rfl ?_
 refine t_aloadN 19 X0.here hx hby d92 rfl rfl rfl ?_
 refine t_iloadN 20 X0.here hx hby d93 rfl rfl ?_
 refine own_aldB (pc' := 21) X0 hx hZ e0 V_o1 (j := 5) (v := (.int 116)) (by decide) rfl (hb hby d94) rfl ?_
 refine t_icmpYes (pc := 21) 26 X0.here hx hby d95 (by decide) (by decide) (by decide) ?_
 refine t_iinc (pc' := 29) (L' := #[vr o0, vr o1, vi 6]) X0.here hx hby d96 rfl (by first | rfl | decide) rfl ?_
 refine t_goto (pc := 29) 9 X0.here hx hby d97 (by decide) (by decide) ?_
 refine t_iloadN 10 X0.here hx hby d85 rfl rfl ?_
 refine t_aloadN 11 X0.here hx hby d86 rfl rfl rfl ?_
 refine own_arlen (pc' := 12) X0 hx hZ e0 V_o0 (hb hby d87) rfl ?_
 refine t_icmpNo 15 X0.here hx hby d88 (by decide) rfl ?_
 refine t_aloadN 16 X0.here hx hby d89 rfl rfl rfl ?_
 refine t_iloadN 17 X0.here hx hby d90 rfl rfl ?_
 refine own_aldB (pc' := 18) X0 hx hZ e0 V_o0 (j := 6) (v := (.int 121)) (by decide) rfl (hb hby d91) rfl ?_
 refine t_aloadN 19 X0.here hx hby d92 rfl rfl rfl ?_
 refine t_iloadN 20 X0.here hx hby d93 rfl rfl ?_
 refine own_aldB (pc' := 21) X0 hx hZ e0 V_o1 (j := 6) (v := (.int 121)) (by decide) rfl (hb hby d94) rfl ?_
 refine t_icmpYes (pc := 21) 26 X0.here hx hby d95 (by decide) (by decide) (by decide) ?_
 refine t_iinc (pc' := 29) (L' := #[vr o0, vr o1, vi 7]) X0.here hx hby d96 rfl (by first | rfl | decide) rfl ?_
 refine t_goto (pc := 29) 9 X0.here hx hby d97 (by decide) (by decide) ?_
 refine t_iloadN 10 X0.here hx hby d85 rfl rfl ?_
 refine t_aloadN 11 X0.here hx hby d86 rfl rfl rfl ?_
 refine own_arlen (pc' := 12) X0 hx hZ e0 V_o0 (hb hby d87) rfl ?_
 refine t_icmpNo 15 X0.here hx hby d88 (by decide) rfl ?_
 refine t_aloadN 16 X0.here hx hby d89 rfl rfl rfl ?_
 refine t_iloadN 17 X0.here hx hby d90 rfl rfl ?_
 refine own_aldB (pc' := 18) X0 hx hZ e0 V_o0 (j := 7) (v := (.int 112)) (by decide) rfl (hb hby d91) rfl ?_
 refine t_aloadN 19 X0.here hx hby d92 rfl rfl rfl ?_
 refine t_iloadN 20 X0.here hx hby d93 rfl rfl ?_
 refine own_aldB (pc' := 21) X0 hx hZ e0 V_o1 (j := 7) (v := (.int 112)) (by decide) rfl (hb hby d94) rfl ?_
 refine t_icmpYes (pc := 21) 26 X0.here hx hby d95 (by decide) (by decide) (by decide) ?_
 refine t_iinc (pc' := 29) (L' := #[vr o0, vr o1, vi 8]) X0.here hx hby d96 rfl (by first | rfl | decide) rfl ?_
 refine t_goto (pc := 29) 9 X0.here hx hby d97 (by decide) (by decide) ?_
 refine t_iloadN 10 X0.here hx hby d85 rfl rfl ?_
 refine t_aloadN 11 X0.here hx hby d86 rfl rfl rfl ?_
 refine own_arlen (pc' := 12) X0 hx hZ e0 V_o0 (hb hby d87) rfl ?_
 refine t_icmpNo 15 X0.here hx hby d88 (by decide) rfl ?_
 refine t_aloadN 16 X0.here hx hby d89 rfl rfl rfl ?_
 refine t_iloadN 17 X0.here hx hby d90 rfl rfl ?_
 refine own_aldB (pc' := 18) X0 hx hZ e0 V_o0 (j := 8) (v := (.int 101)) (by decide) rfl (hb hby d91) rfl ?_
 refine t_aloadN 19 X0.here hx hby d92 rfl rfl rfl ?_
 refine t_iloadN 20 X0.here hx hby d93 rfl rfl ?_
 refine own_aldB (pc' := 21) X0 hx hZ e0 V_o1 (j := 8) (v := (.int 101)) (by decide) rfl (hb hby d94) rfl ?_
 refine t_icmpYes (pc := 21) 26 X0.here hx hby d95 (by decide) (by decide) (by decide) ?_
 refine t_iinc (pc' := 29) (L' := #[vr o0, vr o1, vi 9]) X0.here hx hby d96 rfl (by first | rfl | decide) rfl ?_
 refine t_goto (pc := 29) 9 X0.here hx hby d97 (by decide) (by decide) ?_
 refine t_iloadN 10 X0.here hx hby d85 rfl rfl ?_
 refine t_aloadN 11 X0.here hx hby d86 rfl rfl rfl ?_
 refine own_arlen (pc' := 12) X0 hx hZ e0 V_o0 (hb hby d87) rfl ?_
 refine t_icmpYes (pc := 12) 32 X0.here hx hby d88 (by decide) (by decide) (by decide) ?_
 refine t_iconst 33 (r := 1) X0.here hx hby d98 (by decide) rfl ?_
 exact retN X0 hx (t := .boolean) hret (by simp) (hb hby d99) hr
def Q_r_eqp_n (Z : State) (o0 o1 v0 v1 : Addr) (cs : Int32) (k_v0 k_v1 : ClassId) (h0 : Heap) (n0 : Nat) (v : Option Value) (h : Heap) (L : List Loc) : Prop := v = some (.int 1) ∧ Fr n0 L ∧ h = h0
theorem r_eqp_n (l : Launch) (Z : State) (a0 : Array Value) (hw : HW Z a0) (ws : List Jvm.Cond) (o0 o1 v0 v1 : Addr) (cs : Int32) (k_v0 k_v1 : ClassId) (h0 : Heap) (n0 : Nat) (Z0 : n0 ≤ h0.size) (hcs : ¬ (cs = (0 : Int32))) (ne_o0_o1 : o0 ≠ o1) (E_o1 : Ex4 Z h0 o1) (sCS : SCS Z cs) (O0 : Old Z n0 h0) (F_o0_coder : Fd3 Z h0 o0 z0) (F_o1_coder : Fd3 Z h0 o1 z0) (F_o0_value : Fd4 Z h0 o0 (.ref v0)) (F_o1_value : Fd4 Z h0 o1 (.ref v1)) (V_v0 : Arv Z h0 v0 k_v0 .byte 9 [(.int 112), (.int 114), (.int 111), (.int 116), (.int 111), (.int 116), (.int 121), (.int 112), (.int 101)] z0) (V_v1 : Arv Z h0 v1 k_v1 .byte 9 [(.int 112), (.int 114), (.int 111), (.int 116), (.int 111), (.int 116), (.int 121), (.int 112), (.int 101)] z0) :
    MF l Z y7_equals b6_ 3 (some .boolean) ws ⟨2, 0, 0, 40⟩ #[(.ref o0), (.ref o1)] h0 (Q_r_eqp_n Z o0 o1 v0 v1 cs k_v0 k_v1 h0 n0) := by
 refine own_body (plainFor_of_name pn_String564) (ef_2 o0 o1) (by decide) (by decide) ?_
 intro p e s m below meth c s₁ hx hby hml hown hnm hret hZ hh e0 X0
 have N0 := Fr.nil n0
 obtain ⟨T1, X1, e1, st1⟩ := instY X0 hx hZ hown (w337 hw) e0 (Ins.self E_o1) (g := (mkF m 8 #[vr o0, vr o1, .unset] [(.ref o1)])) rfl rfl (hb hby d61)
 obtain ⟨T2, X2, e2, st2⟩ := castY X1 hx hZ hown (w337 hw) e1 (Ins.self E_o1) (g := (mkF m 15 #[vr o0, vr o1, .unset] [(.ref o1)])) rfl rfl (hb hby d64)
 obtain ⟨T3, X3, e3, st3⟩ := getS2 X2 hx hZ hown (host := "") (Or.inl (w15 hw)) Via.refl e2 (Sta.ext O0.2 sCS) (g := (mkF m 19 #[vr o0, vr o1, vr o1] [])) rfl (hb hby d66)
 obtain ⟨T4, X4, e4, st4⟩ := getF X3 hx hZ hown (host := "") (Or.inl (w27 hw)) Via.refl e3 F_o0_coder (g := (mkF m 26 #[vr o0, vr o1, vr o1] [(.ref o0)])) rfl rfl (hb hby d69)
 obtain ⟨T5, X5, e5, st5⟩ := getF X4 hx hZ hown (host := "") (Or.inl (w27 hw)) Via.refl e4 F_o1_coder (g := (mkF m 30 #[vr o0, vr o1, vr o1] [(.ref o1), z0])) rfl rfl (hb hby d71)
 obtain ⟨T6, X6, e6, st6⟩ := getF X5 hx hZ hown (host := "") (Or.inl (w29 hw)) Via.refl e5 F_o0_value (g := (mkF m 37 #[vr o0, vr o1, vr o1] [(.ref o0)])) rfl rfl (hb hby d74)
 obtain ⟨T7, X7, e7, st7⟩ := getF X6 hx hZ hown (host := "") (Or.inl (w29 hw)) Via.refl e6 F_o1_value (g := (mkF m 41 #[vr o0, vr o1, vr o1] [(.ref o1), (.ref v0)])) rfl rfl (hb hby d76)
 obtain ⟨_, T8, L8, X8, hQ8, st8⟩ := own_static X7 hx hZ hown (w338 hw) (w339 hw) (w281 hw) (w340 hw) (by decide) (r6_equals l Z a0 hw [] v0 v1 k_v0 k_v1 h0 n0 Z0 V_v0 V_v1) e7 (W := 0) (by decide) (g := (mkF m 44 #[vr o0, vr o1, vr o1] [(.ref v1), (.ref v0)])) rfl hml.symm (argsL := [(.ref v0), (.ref v1)]) (rest := []) (lenOf pd_3 rfl) rfl rfl (own_wr rfl rfl) (hb hby d77)
 obtain ⟨rfl, N8q, e8⟩ := hQ8
 have N8 := Fr.app N0 N8q
 refine ⟨T8, _, some (.int 1), X8, (fun h => by cases h <;> rfl), ?_, fun fs hr => ?_⟩
 · show Q_r_eqp_n Z o0 o1 v0 v1 cs k_v0 k_v1 h0 n0 _ T8.heap _
   rw [e8]
   exact ⟨rfl, N8, rfl⟩
 refine t_aloadN 1 X0.here hx hby d57 rfl rfl rfl ?_
 refine t_aloadN 2 X0.here hx hby d58 rfl rfl rfl ?_
 refine Jvm.RoadKit.acmp (g := (mkF m 2 #[vr o0, vr o1, .unset] [(.ref o1), (.ref o0)])) X0 hx rfl rfl rfl (pc0 := 2) (pc' := 7) (same := false) rfl (hb hby d59) rfl (decide_eq_false fun q => absurd (Value.ref.inj q) ne_o0_o1) (by decide) (by decide) ?_
 refine t_aloadN 8 X0.here hx hby d60 rfl rfl rfl ?_
 refine st1 _ ?_
 refine t_ifNo 14 X1.here hx hby d62 (by decide) rfl ?_
 refine t_aloadN 15 X1.here hx hby d63 rfl rfl rfl ?_
 refine st2 _ ?_
 refine t_astoreN (pc' := 19) (L' := #[vr o0, vr o1, vr o1]) X2.here hx hby d65 rfl rfl rfl ?_
 refine st3 _ ?_
 refine t_ifNo 25 X3.here hx hby d67 ((if0 _ _).trans (feq hcs).1) rfl ?_
 refine t_aloadN 26 X3.here hx hby d68 rfl rfl rfl ?_
 refine st4 _ ?_
 refine t_aloadN 30 X4.here hx hby d70 rfl rfl rfl ?_
 refine st5 _ ?_
 refine t_icmpNo 36 X5.here hx hby d72 (by decide) rfl ?_
 refine t_aloadN 37 X5.here hx hby d73 rfl rfl rfl ?_
 refine st6 _ ?_
 refine t_aloadN 41 X6.here hx hby d75 rfl rfl rfl ?_
 refine st7 _ ?_
 refine st8 _ ?_
 refine t_ifNo 50 X8.here hx hby d100 (by decide) rfl ?_
 refine t_iconst 51 (r := 1) X8.here hx hby d101 (by decide) rfl ?_
 refine t_goto (pc := 51) 55 X8.here hx hby d102 (by decide) (by decide) ?_
 exact retN X8 hx (t := .boolean) hret (by simp) (hb hby d103) hr
def Q_r_eqp_e (Z : State) (o0 : Addr) (h0 : Heap) (n0 : Nat) (v : Option Value) (h : Heap) (L : List Loc) : Prop := v = some (.int 1) ∧ Fr n0 L ∧ h = h0
theorem r_eqp_e (l : Launch) (Z : State) (a0 : Array Value) (hw : HW Z a0) (ws : List Jvm.Cond) (o0 : Addr) (h0 : Heap) (n0 : Nat) (Z0 : n0 ≤ h0.size) :
    MF l Z y7_equals b6_ 3 (some .boolean) ws ⟨2, 0, 0, 40⟩ #[(.ref o0), (.ref o0)] h0 (Q_r_eqp_e Z o0 h0 n0) := by
 refine own_body (plainFor_of_name pn_String564) (ef_2 o0 o0) (by decide) (by decide) ?_
 intro p e s m below meth c s₁ hx hby hml hown hnm hret hZ hh e0 X0
 have N0 := Fr.nil n0
 refine ⟨s₁, _, some (.int 1), X0, (fun h => by cases h <;> rfl), ?_, fun fs hr => ?_⟩
 · show Q_r_eqp_e Z o0 h0 n0 _ s₁.heap _
   rw [e0]
   exact ⟨rfl, N0, rfl⟩
 refine t_aloadN 1 X0.here hx hby d57 rfl rfl rfl ?_
 refine t_aloadN 2 X0.here hx hby d58 rfl rfl rfl ?_
 refine Jvm.RoadKit.acmp (g := (mkF m 2 #[vr o0, vr o0, .unset] [(.ref o0), (.ref o0)])) X0 hx rfl rfl rfl (pc0 := 2) (pc' := 5) (same := true) rfl (hb hby d59) rfl (decide_eq_true rfl) (by decide) (by decide) ?_
 refine t_iconst 6 (r := 1) X0.here hx hby d104 (by decide) rfl ?_
 exact retN X0 hx (t := .boolean) hret (by simp) (hb hby d105) hr
theorem r_eqp (l : Launch) (Z : State) (a0 : Array Value) (hw : HW Z a0) (ws : List Jvm.Cond) (o0 o1 v0 v1 : Addr) (cs : Int32) (k_v0 k_v1 : ClassId) (h0 : Heap) (n0 : Nat) (Z0 : n0 ≤ h0.size) (hcs : ¬ (cs = (0 : Int32))) (E_o1 : Ex4 Z h0 o1) (sCS : SCS Z cs) (O0 : Old Z n0 h0) (F_o0_coder : Fd3 Z h0 o0 z0) (F_o1_coder : Fd3 Z h0 o1 z0) (F_o0_value : Fd4 Z h0 o0 (.ref v0)) (F_o1_value : Fd4 Z h0 o1 (.ref v1)) (V_v0 : Arv Z h0 v0 k_v0 .byte 9 [(.int 112), (.int 114), (.int 111), (.int 116), (.int 111), (.int 116), (.int 121), (.int 112), (.int 101)] z0) (V_v1 : Arv Z h0 v1 k_v1 .byte 9 [(.int 112), (.int 114), (.int 111), (.int 116), (.int 111), (.int 116), (.int 121), (.int 112), (.int 101)] z0) :
    MF l Z y7_equals b6_ 3 (some .boolean) ws ⟨2, 0, 0, 40⟩ #[(.ref o0), (.ref o1)] h0 (Q_r_eqp_n Z o0 o1 v0 v1 cs k_v0 k_v1 h0 n0) := by
  by_cases ne_o0_o1 : o0 = o1
  · subst ne_o0_o1
    exact own_impP (r_eqp_e l Z a0 hw ws o0 h0 n0 Z0 ) fun v h L q => q
  · exact r_eqp_n l Z a0 hw ws o0 o1 v0 v1 cs k_v0 k_v1 h0 n0 Z0 hcs ne_o0_o1 E_o1 sCS O0 F_o0_coder F_o1_coder F_o0_value F_o1_value V_v0 V_v1
def w0 (hw : HW Z a0) := ow 0 hw rfl
def w1 (hw : HW Z a0) := ow 1 hw rfl
def w2 (hw : HW Z a0) := ow 2 hw rfl
def w3 (hw : HW Z a0) := ow 3 hw rfl
def w4 (hw : HW Z a0) := ow 4 hw rfl
def w28 (hw : HW Z a0) := ow 28 hw rfl
def w30 (hw : HW Z a0) := ow 30 hw rfl
def w5 (hw : HW Z a0) := ow 5 hw rfl
abbrev b8_ := jdk_42_method_3_code
theorem d106 : decode b8_ 0 = .ok (.aload_n 0, 1) := by decide +kernel
theorem d107 : decode b8_ 1 = .ok (.aload_n 1, 1) := by decide +kernel
theorem d108 : decode b8_ 2 = .ok (.iconst 0, 1) := by decide +kernel
theorem d109 : decode b8_ 3 = .ok (.aload_n 1, 1) := by decide +kernel
theorem d110 : decode b8_ 4 = .ok (.arraylength, 1) := by decide +kernel
theorem d111 : decode b8_ 5 = .ok (.aconst_null, 1) := by decide +kernel
theorem d112 : decode b8_ 6 = .ok (.invokespecial 27, 3) := by decide +kernel
def w8 (hw : HW Z a0) := ow 8 hw rfl
abbrev b9_ := jdk_42_method_149_code
theorem d113 : decode b9_ 0 = .ok (.aload_n 0, 1) := by decide +kernel
theorem d114 : decode b9_ 1 = .ok (.invokespecial 1, 3) := by decide +kernel
def w12 (hw : HW Z a0) := ow 12 hw rfl
theorem d115 : decode b9_ 4 = .ok (.iload_n 3, 1) := by decide +kernel
theorem d116 : decode b9_ 5 = .ok (.ifCond .ne 22, 3) := by decide +kernel
theorem d117 : decode b9_ 27 = .ok (.getstatic 38, 3) := by decide +kernel
theorem d118 : decode b9_ 30 = .ok (.ifCond .eq 28, 3) := by decide +kernel
theorem d119 : decode b9_ 33 = .ok (.aload_n 1, 1) := by decide +kernel
theorem d120 : decode b9_ 34 = .ok (.iload_n 2, 1) := by decide +kernel
theorem d121 : decode b9_ 35 = .ok (.iload_n 3, 1) := by decide +kernel
theorem d122 : decode b9_ 36 = .ok (.invokestatic 177, 3) := by decide +kernel
def w16 (hw : HW Z a0) := ow 16 hw rfl
abbrev b10_ := jdk_52_method_16_code
theorem d123 : decode b10_ 0 = .ok (.iload_n 2, 1) := by decide +kernel
theorem d124 : decode b10_ 1 = .ok (.newarray .byte, 2) := by decide +kernel
def w20 (hw : HW Z a0) := ow 20 hw rfl
theorem d125 : decode b10_ 3 = .ok (.astore_n 3, 1) := by decide +kernel
theorem d126 : decode b10_ 4 = .ok (.aload_n 0, 1) := by decide +kernel
theorem d127 : decode b10_ 5 = .ok (.iload_n 1, 1) := by decide +kernel
theorem d128 : decode b10_ 6 = .ok (.aload_n 3, 1) := by decide +kernel
theorem d129 : decode b10_ 7 = .ok (.iconst 0, 1) := by decide +kernel
theorem d130 : decode b10_ 8 = .ok (.iload_n 2, 1) := by decide +kernel
theorem d131 : decode b10_ 9 = .ok (.invokestatic 115, 3) := by decide +kernel
def w21 (hw : HW Z a0) := ow 21 hw rfl
abbrev b11_ := jdk_52_method_21_code
theorem d132 : decode b11_ 0 = .ok (.iconst 0, 1) := by decide +kernel
theorem d133 : decode b11_ 1 = .ok (.istore 5, 2) := by decide +kernel
theorem d134 : decode b11_ 3 = .ok (.iload 5, 2) := by decide +kernel
theorem d135 : decode b11_ 5 = .ok (.iload 4, 2) := by decide +kernel
theorem d136 : decode b11_ 7 = .ok (.if_icmp .ge 37, 3) := by decide +kernel
theorem d137 : decode b11_ 10 = .ok (.aload_n 0, 1) := by decide +kernel
theorem d138 : decode b11_ 11 = .ok (.iload_n 1, 1) := by decide +kernel
theorem d139 : decode b11_ 12 = .ok (.caload, 1) := by decide +kernel
theorem d140 : decode b11_ 13 = .ok (.istore 6, 2) := by decide +kernel
theorem d141 : decode b11_ 15 = .ok (.iload 6, 2) := by decide +kernel
theorem d142 : decode b11_ 17 = .ok (.sipush 255, 3) := by decide +kernel
theorem d143 : decode b11_ 20 = .ok (.if_icmp .le 6, 3) := by decide +kernel
theorem d144 : decode b11_ 26 = .ok (.aload_n 2, 1) := by decide +kernel
theorem d145 : decode b11_ 27 = .ok (.iload_n 3, 1) := by decide +kernel
theorem d146 : decode b11_ 28 = .ok (.iload 6, 2) := by decide +kernel
theorem d147 : decode b11_ 30 = .ok (.i2b, 1) := by decide +kernel
theorem d148 : decode b11_ 31 = .ok (.bastore, 1) := by decide +kernel
theorem d149 : decode b11_ 32 = .ok (.iinc 1 1, 3) := by decide +kernel
theorem d150 : decode b11_ 35 = .ok (.iinc 3 1, 3) := by decide +kernel
theorem d151 : decode b11_ 38 = .ok (.iinc 5 1, 3) := by decide +kernel
theorem d152 : decode b11_ 41 = .ok (.goto (-38), 3) := by decide +kernel
theorem d153 : decode b11_ 44 = .ok (.iload 4, 2) := by decide +kernel
theorem d154 : decode b11_ 46 = .ok (.ireturn, 1) := by decide +kernel
theorem ef_3 (x0 : Addr) (x1 : Int32) (x2 : Addr) (x3 x4 : Int32) (m : MethodId) : entryFrame m #[(.ref x0), (.int x1), (.ref x2), (.int x3), (.int x4)] 7 = mkF m 0 #[.val (.ref x0), .val (.int x1), .val (.ref x2), .val (.int x3), .val (.int x4), .unset, .unset] [] := by first | (simp [entryFrame, mkF, argsToLocals, Value.category]; done) | rfl
theorem pn_StringUTF16906 : plainName "java/lang/StringUTF16" = true := by first | (simp [plainName, overriddenIn]; done) | decide +kernel
abbrev y8_compress : MethodName := ⟨"java/lang/StringUTF16", "compress", "([CI[BII)I"⟩
def WS_r10_compress (Z : State) (o2 : Addr) : List (Addr × Nat) := [(o2, (0 : Int32).toNatClampNeg), (o2, (1 : Int32).toNatClampNeg)]
def Q_r10_compress (Z : State) (o0 o2 : Addr) (i_1 i_2 : Int32) (k_o0 k_o2 : ClassId) (h0 : Heap) (n0 : Nat) (v : Option Value) (h : Heap) (L : List Loc) : Prop := v = some (.int 2) ∧ Fr n0 L ∧ KL h0 h (WS_r10_compress Z o2) ∧ Arv Z h o2 k_o2 .byte 2 [(.int (i_1.toInt8.toInt32)), (.int (i_2.toInt8.toInt32))] z0
theorem r10_compress (l : Launch) (Z : State) (a0 : Array Value) (hw : HW Z a0) (ws : List Jvm.Cond) (o0 o2 : Addr) (i_1 i_2 : Int32) (k_o0 k_o2 : ClassId) (h0 : Heap) (n0 : Nat) (Z0 : n0 ≤ h0.size) (V_o0 : Arv Z h0 o0 k_o0 .char 2 [(.int i_1), (.int i_2)] z0) (hp0 : ¬ ((255 : Int32) < i_1)) (V_o2 : Arv Z h0 o2 k_o2 .byte 2 [z0, z0] z0) (g_o2 : n0 ≤ o2) (ne_o0_o2 : o0 ≠ o2) (hp1 : ¬ ((255 : Int32) < i_2)) :
    MF l Z y8_compress b11_ 7 (some .int) ws ⟨0, 0, 0, 0⟩ #[(.ref o0), z0, (.ref o2), z0, (.int 2)] h0 (Q_r10_compress Z o0 o2 i_1 i_2 k_o0 k_o2 h0 n0) := by
 refine own_body (plainFor_of_name pn_StringUTF16906) (ef_3 o0 (0 : Int32) o2 (0 : Int32) (2 : Int32)) (by decide) (by decide) ?_
 intro p e s m below meth c s₁ hx hby hml hown hnm hret hZ hh e0 X0
 have N0 := Fr.nil n0
 obtain ⟨T3, h3, X3, e3, W3, V3, st3⟩ := own_astB X0 hx hZ e0 V_o2 (j := 0) (by decide) 0 rfl (Nat.le_of_ble_eq_true rfl) (g := (mkF m 31 #[vr o0, vi 0, vr o2, vi 0, vi 2, vi 0, vi i_1] [(.int (i_1.toInt8.toInt32)), z0, (.ref o2)])) rfl rfl (hb hby d148)
 rw [show (nar .byte (i_1.toInt8.toInt32)) = (i_1.toInt8.toInt32) from (own_narb _)] at V3
 have K3 := KL.ofW W3
 replace V3 : Arv Z h3 o2 k_o2 .byte 2 [(.int (i_1.toInt8.toInt32)), z0] z0 := V3
 have N3 := Fr.snoc X3 N0 g_o2
 have f4 := (kArv K3 V_o0 (naN (Ne.symm ne_o0_o2) na0))
 obtain ⟨T5, h5, X5, e5, W5, V5, st5⟩ := own_astB X3 hx hZ e3 V3 (j := 1) (by decide) 1 rfl (Nat.le_of_ble_eq_true rfl) (g := (mkF m 31 #[vr o0, vi 1, vr o2, vi 1, vi 2, vi 1, vi i_2] [(.int (i_2.toInt8.toInt32)), (.int 1), (.ref o2)])) rfl rfl (hb hby d148)
 rw [show (nar .byte (i_2.toInt8.toInt32)) = (i_2.toInt8.toInt32) from (own_narb _)] at V5
 have K5 := KL.ofW W5
 replace V5 : Arv Z h5 o2 k_o2 .byte 2 [(.int (i_1.toInt8.toInt32)), (.int (i_2.toInt8.toInt32))] z0 := V5
 have N5 := Fr.snoc X5 N3 g_o2
 have C0 := (KL.refl h0 (WS_r10_compress Z o2)).trans K3 (naO (own_mi 0 rfl) na0)
 have C1 := C0.trans K5 (naO (own_mi 1 rfl) na0)
 refine ⟨T5, _, some (.int 2), X5, (fun h => by cases h <;> rfl), ?_, fun fs hr => ?_⟩
 · show Q_r10_compress Z o0 o2 i_1 i_2 k_o0 k_o2 h0 n0 _ T5.heap _
   rw [e5]
   exact ⟨rfl, N5, C1, V5⟩
 refine t_iconst 1 (r := 0) X0.here hx hby d132 (by decide) rfl ?_
 refine t_istore (pc' := 3) (L' := #[vr o0, vi 0, vr o2, vi 0, vi 2, vi 0, .unset]) X0.here hx hby d133 rfl rfl ?_
 refine t_iload 5 X0.here hx hby d134 rfl rfl ?_
 refine t_iload 7 X0.here hx hby d135 rfl rfl ?_
 refine t_icmpNo 10 X0.here hx hby d136 (by decide) rfl ?_
 refine t_aloadN 11 X0.here hx hby d137 rfl rfl rfl ?_
 refine t_iloadN 12 X0.here hx hby d138 rfl rfl ?_
 refine own_aldC (pc' := 13) X0 hx hZ e0 V_o0 (j := 0) (v := (.int i_1)) (by decide) rfl (hb hby d139) rfl ?_
 refine t_istore (pc' := 15) (L' := #[vr o0, vi 0, vr o2, vi 0, vi 2, vi 0, vi i_1]) X0.here hx hby d140 rfl rfl ?_
 refine t_iload 17 X0.here hx hby d141 rfl rfl ?_
 refine t_sipush 20 (r := 255) X0.here hx hby d142 (by decide) rfl ?_
 refine t_icmpYes (pc := 20) 26 X0.here hx hby d143 (flt hp0).2.2.2 (by decide) (by decide) ?_
 refine t_aloadN 27 X0.here hx hby d144 rfl rfl rfl ?_
 refine t_iloadN 28 X0.here hx hby d145 rfl rfl ?_
 refine t_iload 30 X0.here hx hby d146 rfl rfl ?_
 refine t_i2b 31 X0.here hx hby d147 rfl rfl ?_
 refine st3 _ ?_
 refine t_iinc (pc' := 35) (L' := #[vr o0, vi 1, vr o2, vi 0, vi 2, vi 0, vi i_1]) X3.here hx hby d149 rfl (by first | rfl | decide) rfl ?_
 refine t_iinc (pc' := 38) (L' := #[vr o0, vi 1, vr o2, vi 1, vi 2, vi 0, vi i_1]) X3.here hx hby d150 rfl (by first | rfl | decide) rfl ?_
 refine t_iinc (pc' := 41) (L' := #[vr o0, vi 1, vr o2, vi 1, vi 2, vi 1, vi i_1]) X3.here hx hby d151 rfl (by first | rfl | decide) rfl ?_
 refine t_goto (pc := 41) 3 X3.here hx hby d152 (by decide) (by decide) ?_
 refine t_iload 5 X3.here hx hby d134 rfl rfl ?_
 refine t_iload 7 X3.here hx hby d135 rfl rfl ?_
 refine t_icmpNo 10 X3.here hx hby d136 (by decide) rfl ?_
 refine t_aloadN 11 X3.here hx hby d137 rfl rfl rfl ?_
 refine t_iloadN 12 X3.here hx hby d138 rfl rfl ?_
 refine own_aldC (pc' := 13) X3 hx hZ e3 f4 (j := 1) (v := (.int i_2)) (by decide) rfl (hb hby d139) rfl ?_
 refine t_istore (pc' := 15) (L' := #[vr o0, vi 1, vr o2, vi 1, vi 2, vi 1, vi i_2]) X3.here hx hby d140 rfl rfl ?_
 refine t_iload 17 X3.here hx hby d141 rfl rfl ?_
 refine t_sipush 20 (r := 255) X3.here hx hby d142 (by decide) rfl ?_
 refine t_icmpYes (pc := 20) 26 X3.here hx hby d143 (flt hp1).2.2.2 (by decide) (by decide) ?_
 refine t_aloadN 27 X3.here hx hby d144 rfl rfl rfl ?_
 refine t_iloadN 28 X3.here hx hby d145 rfl rfl ?_
 refine t_iload 30 X3.here hx hby d146 rfl rfl ?_
 refine t_i2b 31 X3.here hx hby d147 rfl rfl ?_
 refine st5 _ ?_
 refine t_iinc (pc' := 35) (L' := #[vr o0, vi 2, vr o2, vi 1, vi 2, vi 1, vi i_2]) X5.here hx hby d149 rfl (by first | rfl | decide) rfl ?_
 refine t_iinc (pc' := 38) (L' := #[vr o0, vi 2, vr o2, vi 2, vi 2, vi 1, vi i_2]) X5.here hx hby d150 rfl (by first | rfl | decide) rfl ?_
 refine t_iinc (pc' := 41) (L' := #[vr o0, vi 2, vr o2, vi 2, vi 2, vi 2, vi i_2]) X5.here hx hby d151 rfl (by first | rfl | decide) rfl ?_
 refine t_goto (pc := 41) 3 X5.here hx hby d152 (by decide) (by decide) ?_
 refine t_iload 5 X5.here hx hby d134 rfl rfl ?_
 refine t_iload 7 X5.here hx hby d135 rfl rfl ?_
 refine t_icmpYes (pc := 7) 44 X5.here hx hby d136 (by decide) (by decide) (by decide) ?_
 refine t_iload 46 X5.here hx hby d153 rfl rfl ?_
 exact retI X5 hx hret (hb hby d154) hr
def w23 (hw : HW Z a0) := ow 23 hw rfl
def w18 (hw : HW Z a0) := ow 18 hw rfl
theorem pd_4 : parseMethodDescriptor "([CI[BII)I" = some ⟨[(.array .char), .int, (.array .byte), .int, .int], some .int⟩ := by decide +kernel
def w22 (hw : HW Z a0) := ow 22 hw rfl
theorem d155 : decode b10_ 12 = .ok (.istore 4, 2) := by decide +kernel
theorem d156 : decode b10_ 14 = .ok (.iload 4, 2) := by decide +kernel
theorem d157 : decode b10_ 16 = .ok (.iload_n 2, 1) := by decide +kernel
theorem d158 : decode b10_ 17 = .ok (.if_icmp .eq 40, 3) := by decide +kernel
theorem d159 : decode b10_ 57 = .ok (.aload_n 3, 1) := by decide +kernel
theorem d160 : decode b10_ 58 = .ok (.areturn, 1) := by decide +kernel
theorem ef_4 (x0 : Addr) (x1 x2 : Int32) (m : MethodId) : entryFrame m #[(.ref x0), (.int x1), (.int x2)] 6 = mkF m 0 #[.val (.ref x0), .val (.int x1), .val (.int x2), .unset, .unset, .unset] [] := by first | (simp [entryFrame, mkF, argsToLocals, Value.category]; done) | rfl
abbrev y9_compress : MethodName := ⟨"java/lang/StringUTF16", "compress", "([CII)[B"⟩
def Q_r9_compress (Z : State) (o0 : Addr) (i_2 i_3 : Int32) (k_o0 : ClassId) (h0 : Heap) (n0 : Nat) (v : Option Value) (h : Heap) (L : List Loc) : Prop := ∃ b1 : Addr, ∃ k1 : ClassId, v = some (.ref b1) ∧ Fr n0 L ∧ KL h0 h [] ∧ h0.size ≤ b1 ∧ Arv Z h b1 k1 .byte 2 [(.int (i_2.toInt8.toInt32)), (.int (i_3.toInt8.toInt32))] z0
theorem r9_compress (l : Launch) (Z : State) (a0 : Array Value) (hw : HW Z a0) (ws : List Jvm.Cond) (o0 : Addr) (i_2 i_3 : Int32) (k_o0 : ClassId) (h0 : Heap) (n0 : Nat) (Z0 : n0 ≤ h0.size) (V_o0 : Arv Z h0 o0 k_o0 .char 2 [(.int i_2), (.int i_3)] z0) (hp0 : ¬ ((255 : Int32) < i_2)) (hp1 : ¬ ((255 : Int32) < i_3)) :
    MF l Z y9_compress b10_ 6 (some (.array .byte)) ws ⟨1, 1, 2, 18⟩ #[(.ref o0), z0, (.int 2)] h0 (Q_r9_compress Z o0 i_2 i_3 k_o0 h0 n0) := by
 refine own_body (plainFor_of_name pn_StringUTF16906) (ef_4 o0 (0 : Int32) (2 : Int32)) (by decide) (by decide) ?_
 intro p e s m below meth c s₁ hx hby hml hown hnm hret hZ hh e0 X0
 have N0 := Fr.nil n0
 obtain ⟨T1, h1, k1, X1, e1, E1, A1, st1⟩ := newP (aty := .byte) X0 hx hZ (w20 hw) e0 (g := (mkF m 1 #[vr o0, vi 0, vi 2, .unset, .unset, .unset] [(.int 2)])) rfl (hb hby d124) rfl (by decide) (cap := 2) (by decide) (by decide) (by decide) (by decide)
 obtain ⟨b1, g1⟩ : ∃ z, z = h0.size := ⟨_, rfl⟩
 rw [← g1] at A1 st1
 have ge_b1 : h0.size ≤ b1 := Nat.le_of_eq g1.symm
 have K1 := KL.ofE E1
 have V1 : Arv Z h1 b1 k1 .byte 2 [z0, z0] z0 := (Arv.new A1 (by decide)).pad (pad_rep [] z0 2)
 have f5 := (kArv K1 V_o0 na0)
 have gg6 := Nat.le_trans Z0 ge_b1
 have lt_o0 : o0 < h0.size := Arv.lt V_o0
 have ne7 := lt_ne lt_o0 ge_b1
 obtain ⟨_, T4, L4, X4, hQ4, st4⟩ := own_static X1 hx hZ hown (w21 hw) (w22 hw) (w18 hw) (w23 hw) (by decide) (r10_compress l Z a0 hw [] o0 b1 i_2 i_3 k_o0 k1 h1 n0 (Nat.le_trans Z0 K1.1) f5 hp0 V1 gg6 ne7 hp1) e1 (W := 0) (by decide) (g := (mkF m 9 #[vr o0, vi 0, vi 2, vr b1, .unset, .unset] [(.int 2), z0, (.ref b1), z0, (.ref o0)])) rfl hml.symm (argsL := [(.ref o0), z0, (.ref b1), z0, (.int 2)]) (rest := []) (lenOf pd_4 rfl) rfl rfl (own_wr rfl rfl) (hb hby d131)
 obtain ⟨rfl, N4q, K4, Q4_0⟩ := hQ4
 have N4 := Fr.app N0 N4q
 have C0 := (KL.refl h0 []).trans K1 na0
 have C1 := C0.trans K4 (naO (Or.inr ge_b1) (naO (Or.inr ge_b1) na0))
 refine ⟨T4, _, some (.ref b1), X4, (fun h => by cases h <;> rfl), ?_, fun fs hr => ?_⟩
 · show Q_r9_compress Z o0 i_2 i_3 k_o0 h0 n0 _ T4.heap _
   exact ⟨b1, k1, rfl, N4, C1, ge_b1, Q4_0⟩
 refine t_iloadN 1 X0.here hx hby d123 rfl rfl ?_
 refine st1 _ ?_
 refine t_astoreN (pc' := 4) (L' := #[vr o0, vi 0, vi 2, vr b1, .unset, .unset]) X1.here hx hby d125 rfl rfl rfl ?_
 refine t_aloadN 5 X1.here hx hby d126 rfl rfl rfl ?_
 refine t_iloadN 6 X1.here hx hby d127 rfl rfl ?_
 refine t_aloadN 7 X1.here hx hby d128 rfl rfl rfl ?_
 refine t_iconst 8 (r := 0) X1.here hx hby d129 (by decide) rfl ?_
 refine t_iloadN 9 X1.here hx hby d130 rfl rfl ?_
 refine st4 _ ?_
 refine t_istore (pc' := 14) (L' := #[vr o0, vi 0, vi 2, vr b1, vi 2, .unset]) X4.here hx hby d155 rfl rfl ?_
 refine t_iload 16 X4.here hx hby d156 rfl rfl ?_
 refine t_iloadN 17 X4.here hx hby d157 rfl rfl ?_
 refine t_icmpYes (pc := 17) 57 X4.here hx hby d158 (by decide) (by decide) (by decide) ?_
 refine t_aloadN 58 X4.here hx hby d159 rfl rfl rfl ?_
 jvm_step X4.here [X4.here.top, hx, (hb hby d160), X4.method', hret, Value.isRef, FieldType.isReference]
 first | (intro acts; rw [hr _ acts rfl rfl rfl]) | rw [hr _ _ rfl rfl rfl]
 exact Steps.refl _
def w19 (hw : HW Z a0) := ow 19 hw rfl
theorem pd_5 : parseMethodDescriptor "([CII)[B" = some ⟨[(.array .char), .int, .int], some (.array .byte)⟩ := by decide +kernel
def w17 (hw : HW Z a0) := ow 17 hw rfl
theorem d161 : decode b9_ 39 = .ok (.astore 5, 2) := by decide +kernel
theorem d162 : decode b9_ 41 = .ok (.aload_n 0, 1) := by decide +kernel
theorem d163 : decode b9_ 42 = .ok (.aload 5, 2) := by decide +kernel
theorem d164 : decode b9_ 44 = .ok (.iload_n 3, 1) := by decide +kernel
theorem d165 : decode b9_ 45 = .ok (.invokestatic 47, 3) := by decide +kernel
def w24 (hw : HW Z a0) := ow 24 hw rfl
abbrev b12_ := jdk_52_method_15_code
theorem d166 : decode b12_ 0 = .ok (.iload_n 1, 1) := by decide +kernel
theorem d167 : decode b12_ 1 = .ok (.aload_n 0, 1) := by decide +kernel
theorem d168 : decode b12_ 2 = .ok (.arraylength, 1) := by decide +kernel
theorem d169 : decode b12_ 3 = .ok (.isub, 1) := by decide +kernel
theorem d170 : decode b12_ 4 = .ok (.bipush 31, 2) := by decide +kernel
theorem d171 : decode b12_ 6 = .ok (.iushr, 1) := by decide +kernel
theorem d172 : decode b12_ 7 = .ok (.i2b, 1) := by decide +kernel
theorem d173 : decode b12_ 8 = .ok (.ireturn, 1) := by decide +kernel
theorem ef_5 (x0 : Addr) (x1 : Int32) (m : MethodId) : entryFrame m #[(.ref x0), (.int x1)] 2 = mkF m 0 #[.val (.ref x0), .val (.int x1)] [] := by first | (simp [entryFrame, mkF, argsToLocals, Value.category]; done) | rfl
abbrev y10_coderFromArrayLen : MethodName := ⟨"java/lang/StringUTF16", "coderFromArrayLen", "([BI)B"⟩
def Q_r11_coderFromArrayLen (Z : State) (o0 : Addr) (i_1 i_2 : Int32) (k_o0 : ClassId) (h0 : Heap) (n0 : Nat) (v : Option Value) (h : Heap) (L : List Loc) : Prop := v = some z0 ∧ Fr n0 L ∧ h = h0
theorem r11_coderFromArrayLen (l : Launch) (Z : State) (a0 : Array Value) (hw : HW Z a0) (ws : List Jvm.Cond) (o0 : Addr) (i_1 i_2 : Int32) (k_o0 : ClassId) (h0 : Heap) (n0 : Nat) (Z0 : n0 ≤ h0.size) (V_o0 : Arv Z h0 o0 k_o0 .byte 2 [(.int i_1), (.int i_2)] z0) :
    MF l Z y10_coderFromArrayLen b12_ 2 (some .byte) ws ⟨0, 0, 0, 0⟩ #[(.ref o0), (.int 2)] h0 (Q_r11_coderFromArrayLen Z o0 i_1 i_2 k_o0 h0 n0) := by
 refine own_body (plainFor_of_name pn_StringUTF16906) (ef_5 o0 (2 : Int32)) (by decide) (by decide) ?_
 intro p e s m below meth c s₁ hx hby hml hown hnm hret hZ hh e0 X0
 have N0 := Fr.nil n0
 refine ⟨s₁, _, some z0, X0, (fun h => by cases h <;> rfl), ?_, fun fs hr => ?_⟩
 · show Q_r11_coderFromArrayLen Z o0 i_1 i_2 k_o0 h0 n0 _ s₁.heap _
   rw [e0]
   exact ⟨rfl, N0, rfl⟩
 refine t_iloadN 1 X0.here hx hby d166 rfl rfl ?_
 refine t_aloadN 2 X0.here hx hby d167 rfl rfl rfl ?_
 refine own_arlen (pc' := 3) X0 hx hZ e0 V_o0 (hb hby d168) rfl ?_
 refine t_isub 4 (r := 0) X0.here hx hby d169 (by decide : ((2 : Int32) - (2 : Int32)) = (0 : Int32)) rfl ?_
 refine t_bipush 6 (r := 31) X0.here hx hby d170 (by decide) rfl ?_
 refine t_iushr 7 (r := 0) X0.here hx hby d171 (by decide : (((0 : Int32).toUInt32 >>> ((31 : Int32) &&& 31).toUInt32).toInt32) = (0 : Int32)) rfl ?_
 refine t_i2b 8 (r := 0) X0.here hx hby d172 (by decide : ((0 : Int32).toInt8.toInt32) = (0 : Int32)) rfl ?_
 exact retN X0 hx (t := .byte) hret (by simp) (hb hby d173) hr
def w26 (hw : HW Z a0) := ow 26 hw rfl
theorem pd_6 : parseMethodDescriptor "([BI)B" = some ⟨[(.array .byte), .int], some .byte⟩ := by decide +kernel
def w25 (hw : HW Z a0) := ow 25 hw rfl
theorem d174 : decode b9_ 48 = .ok (.putfield 15, 3) := by decide +kernel
theorem d175 : decode b9_ 51 = .ok (.aload_n 0, 1) := by decide +kernel
theorem d176 : decode b9_ 52 = .ok (.aload 5, 2) := by decide +kernel
theorem d177 : decode b9_ 54 = .ok (.putfield 9, 3) := by decide +kernel
abbrev ft2_ : FieldType := .array .byte
theorem sn_2 (hw : HW Z a0) : sl4 Z ≠ sl3 Z := slot_ne (a0 := a0) (Or.inr (w30 hw)) (Or.inr (w28 hw)) (by decide) (t := ft2_) (t' := .byte) (by decide) (by decide)
theorem d178 : decode b9_ 57 = .ok (.return_, 1) := by decide +kernel
theorem sn_3 (hw : HW Z a0) : sl3 Z ≠ sl4 Z := slot_ne (a0 := a0) (Or.inr (w28 hw)) (Or.inr (w30 hw)) (by decide) (t := .byte) (t' := ft2_) (by decide) (by decide)
theorem ef_6 (x0 x1 : Addr) (x2 x3 : Int32) (m : MethodId) : entryFrame m #[(.ref x0), (.ref x1), (.int x2), (.int x3), .null] 6 = mkF m 0 #[.val (.ref x0), .val (.ref x1), .val (.int x2), .val (.int x3), .val .null, .unset] [] := by first | (simp [entryFrame, mkF, argsToLocals, Value.category]; done) | rfl
abbrev y11__init_ : MethodName := ⟨"java/lang/String", "<init>", "([CIILjava/lang/Void;)V"⟩
def WS_r8__init_ (Z : State) (o0 : Addr) : List (Addr × Nat) := [(o0, (sl3 Z)), (o0, (sl4 Z))]
def Q_r8__init_ (Z : State) (o0 o1 : Addr) (i_2 i_4 i_5 : Int32) (k_o1 : ClassId) (h0 : Heap) (n0 : Nat) (v : Option Value) (h : Heap) (L : List Loc) : Prop := ∃ b1_6 : Addr, ∃ k1_6 : ClassId, v = none ∧ Fr n0 L ∧ KL h0 h (WS_r8__init_ Z o0) ∧ h0.size ≤ b1_6 ∧ Fd3 Z h o0 z0 ∧ Fd4 Z h o0 (.ref b1_6) ∧ Arv Z h b1_6 k1_6 .byte 2 [(.int (i_4.toInt8.toInt32)), (.int (i_5.toInt8.toInt32))] z0
theorem r8__init_ (l : Launch) (Z : State) (a0 : Array Value) (hw : HW Z a0) (ws : List Jvm.Cond) (o0 o1 : Addr) (i_2 i_4 i_5 : Int32) (k_o1 : ClassId) (h0 : Heap) (n0 : Nat) (Z0 : n0 ≤ h0.size) (sCS : SCS Z i_2) (O0 : Old Z n0 h0) (hp0 : ¬ (i_2 = (0 : Int32))) (V_o1 : Arv Z h0 o1 k_o1 .char 2 [(.int i_4), (.int i_5)] z0) (hp1 : ¬ ((255 : Int32) < i_4)) (hp2 : ¬ ((255 : Int32) < i_5)) (F_o0_coder : Fd3 Z h0 o0 z0) (E_o0 : Ex4 Z h0 o0) (g_o0 : n0 ≤ o0) (F_o0_value : Fd4 Z h0 o0 .null) :
    MF l Z y11__init_ b9_ 6 none ws ⟨2, 1, 2, 35⟩ #[(.ref o0), (.ref o1), z0, (.int 2), .null] h0 (Q_r8__init_ Z o0 o1 i_2 i_4 i_5 k_o1 h0 n0) := by
 refine own_body (plainFor_of_name pn_String564) (ef_6 o0 o1 (0 : Int32) (2 : Int32)) (by decide) (by decide) ?_
 intro p e s m below meth c s₁ hx hby hml hown hnm hret hZ hh e0 X0
 have N0 := Fr.nil n0
 obtain ⟨T1, X1, e1, st1⟩ := initO X0 hx hZ hown (w12 hw) (w13 hw) (w14 hw) e0 (g := (mkF m 1 #[vr o0, vr o1, vi 0, vi 2, .val .null, .unset] [(.ref o0)])) rfl hml.symm rfl (hb hby d114) (by decide) (W := 0) (own_wr rfl rfl) (by decide)
 obtain ⟨T3, X3, e3, st3⟩ := getS2 X1 hx hZ hown (host := "") (Or.inl (w15 hw)) Via.refl e1 (Sta.ext O0.2 sCS) (g := (mkF m 27 #[vr o0, vr o1, vi 0, vi 2, .val .null, .unset] [])) rfl (hb hby d117)
 obtain ⟨_, T6, L6, X6, hQ6, st6⟩ := own_static X3 hx hZ hown (w16 hw) (w17 hw) (w18 hw) (w19 hw) (by decide) (r9_compress l Z a0 hw [] o1 i_4 i_5 k_o1 h0 n0 Z0 V_o1 hp1 hp2) e3 (W := 0) (by decide) (g := (mkF m 36 #[vr o0, vr o1, vi 0, vi 2, .val .null, .unset] [(.int 2), z0, (.ref o1)])) rfl hml.symm (argsL := [(.ref o1), z0, (.int 2)]) (rest := []) (lenOf pd_5 rfl) rfl rfl (own_wr rfl rfl) (hb hby d122)
 obtain ⟨b1_6, k1_6, rfl, N6q, K6, Q6_0, Q6_1⟩ := hQ6
 have N6 := Fr.app N0 N6q
 obtain ⟨_, T8, L8, X8, hQ8, st8⟩ := own_static X6 hx hZ hown (w24 hw) (w25 hw) (w18 hw) (w26 hw) (by decide) (r11_coderFromArrayLen l Z a0 hw [] b1_6 (i_4.toInt8.toInt32) (i_5.toInt8.toInt32) k1_6 T6.heap n0 (Nat.le_trans Z0 K6.1) Q6_1) rfl (W := 1) (by decide) (g := (mkF m 45 #[vr o0, vr o1, vi 0, vi 2, .val .null, vr b1_6] [(.int 2), (.ref b1_6), (.ref o0)])) rfl hml.symm (argsL := [(.ref b1_6), (.int 2)]) (rest := [(.ref o0)]) (lenOf pd_6 rfl) rfl rfl (own_wr rfl rfl) (hb hby d165)
 obtain ⟨rfl, N8q, e8⟩ := hQ8
 have N8 := Fr.app N6 N8q
 have f9 := (kFld K6 F_o0_coder nw0)
 have f10 := (kExa K6 E_o0)
 obtain ⟨T11, h11, X11, e11, W11, st11⟩ := putF X8 hx hZ hown (host := "") (Or.inl (w27 hw)) Via.refl e8 f9 f10 (Or.inr ⟨(w28 hw), rfl, hnm⟩) (w3 hw) (ty := .byte) (by decide) (by decide) (by decide) (g := (mkF m 48 #[vr o0, vr o1, vi 0, vi 2, .val .null, vr b1_6] [z0, (.ref o0)])) rfl rfl (hb hby d174)
 have K11 := KL.ofW W11
 have Fw11 : Fd3 Z h11 o0 z0 := Fld.same W11 f9
 have N11 := Fr.snoc X11 N8 g_o0
 have f12 := (kFld K11 (kFld K6 F_o0_value nw0) (nwR (sn_2 hw) nw0))
 have f13 := (kExa K11 f10)
 obtain ⟨T14, h14, X14, e14, W14, st14⟩ := putF X11 hx hZ hown (host := "") (Or.inl (w29 hw)) Via.refl e11 f12 f13 (Or.inr ⟨(w30 hw), rfl, hnm⟩) (w3 hw) (ty := (.array .byte)) (by decide) rfl rfl (g := (mkF m 54 #[vr o0, vr o1, vi 0, vi 2, .val .null, vr b1_6] [(.ref b1_6), (.ref o0)])) rfl rfl (hb hby d177)
 have K14 := KL.ofW W14
 have Fw14 : Fd4 Z h14 o0 (.ref b1_6) := Fld.same W14 f12
 have N14 := Fr.snoc X14 N11 g_o0
 have C0 := (KL.refl h0 (WS_r8__init_ Z o0)).trans K6 na0
 have C1 := C0.trans K11 (naO (own_mi 0 rfl) na0)
 have C2 := C1.trans K14 (naO (own_mi 1 rfl) na0)
 have f15 := (kFld K14 Fw11 (nwR (sn_3 hw) nw0))
 have lt_o0 : o0 < h0.size := Fld.lt F_o0_coder
 have ne16 := lt_ne lt_o0 Q6_0
 have f17 := (kArv K14 (kArv K11 Q6_1 (naN ne16 na0)) (naN ne16 na0))
 refine ⟨T14, _, none, X14, (fun h => by cases h <;> rfl), ?_, fun fs hr => ?_⟩
 · show Q_r8__init_ Z o0 o1 i_2 i_4 i_5 k_o1 h0 n0 _ T14.heap _
   rw [e14]
   exact ⟨b1_6, k1_6, rfl, N14, C2, Q6_0, f15, Fw14, f17⟩
 refine t_aloadN 1 X0.here hx hby d113 rfl rfl rfl ?_
 refine st1 _ ?_
 refine t_iloadN 5 X1.here hx hby d115 rfl rfl ?_
 refine t_ifYes (pc := 5) 27 X1.here hx hby d116 (by decide) (by decide) (by decide) ?_
 refine st3 _ ?_
 refine t_ifNo 33 X3.here hx hby d118 ((if0 _ _).trans (feq hp0).1) rfl ?_
 refine t_aloadN 34 X3.here hx hby d119 rfl rfl rfl ?_
 refine t_iloadN 35 X3.here hx hby d120 rfl rfl ?_
 refine t_iloadN 36 X3.here hx hby d121 rfl rfl ?_
 refine st6 _ ?_
 refine t_astore (pc' := 41) (L' := #[vr o0, vr o1, vi 0, vi 2, .val .null, vr b1_6]) X6.here hx hby d161 rfl rfl rfl ?_
 refine t_aloadN 42 X6.here hx hby d162 rfl rfl rfl ?_
 refine t_aload 44 X6.here hx hby d163 rfl rfl rfl ?_
 refine t_iloadN 45 X6.here hx hby d164 rfl rfl ?_
 refine st8 _ ?_
 refine st11 _ ?_
 refine t_aloadN 52 X11.here hx hby d175 rfl rfl rfl ?_
 refine t_aload 54 X11.here hx hby d176 rfl rfl rfl ?_
 refine st14 _ ?_
 exact X14.returnOut hx hret (hb hby d178) hr
def w11 (hw : HW Z a0) := ow 11 hw rfl
theorem pd_7 : parseMethodDescriptor "([CIILjava/lang/Void;)V" = some ⟨[(.array .char), .int, .int, (.object "java/lang/Void")], none⟩ := by decide +kernel
def w9 (hw : HW Z a0) := ow 9 hw rfl
theorem d179 : decode b8_ 9 = .ok (.return_, 1) := by decide +kernel
abbrev y12__init_ : MethodName := ⟨"java/lang/String", "<init>", "([C)V"⟩
def WS_r7__init_ (Z : State) (o0 : Addr) : List (Addr × Nat) := [(o0, (sl3 Z)), (o0, (sl4 Z))]
def Q_r7__init_ (Z : State) (o0 o1 : Addr) (i_1 i_2 : Int32) (k_o1 : ClassId) (i_3 : Int32) (h0 : Heap) (n0 : Nat) (v : Option Value) (h : Heap) (L : List Loc) : Prop := ∃ b1_6_4 : Addr, ∃ k1_6_4 : ClassId, v = none ∧ Fr n0 L ∧ KL h0 h (WS_r7__init_ Z o0) ∧ h0.size ≤ b1_6_4 ∧ Fd3 Z h o0 z0 ∧ Fd4 Z h o0 (.ref b1_6_4) ∧ Arv Z h b1_6_4 k1_6_4 .byte 2 [(.int (i_1.toInt8.toInt32)), (.int (i_2.toInt8.toInt32))] z0
theorem r7__init_ (l : Launch) (Z : State) (a0 : Array Value) (hw : HW Z a0) (ws : List Jvm.Cond) (o0 o1 : Addr) (i_1 i_2 : Int32) (k_o1 : ClassId) (i_3 : Int32) (h0 : Heap) (n0 : Nat) (Z0 : n0 ≤ h0.size) (V_o1 : Arv Z h0 o1 k_o1 .char 2 [(.int i_1), (.int i_2)] z0) (sCS : SCS Z i_3) (F_o0_coder : Fd3 Z h0 o0 z0) (E_o0 : Ex4 Z h0 o0) (F_o0_value : Fd4 Z h0 o0 .null) (O0 : Old Z n0 h0) (hp0 : ¬ (i_3 = (0 : Int32))) (hp1 : ¬ ((255 : Int32) < i_1)) (hp2 : ¬ ((255 : Int32) < i_2)) (g_o0 : n0 ≤ o0) :
    MF l Z y12__init_ b8_ 2 none ws ⟨3, 1, 2, 52⟩ #[(.ref o0), (.ref o1)] h0 (Q_r7__init_ Z o0 o1 i_1 i_2 k_o1 i_3 h0 n0) := by
 refine own_body (plainFor_of_name pn_String564) (ef_0 o0 o1) (by decide) (by decide) ?_
 intro p e s m below meth c s₁ hx hby hml hown hnm hret hZ hh e0 X0
 have N0 := Fr.nil n0
 obtain ⟨_, T4, L4, X4, hQ4, st4⟩ := own_init X0 hx hZ rfl hown (w8 hw) (w9 hw) (w4 hw) (w11 hw) (by decide) (r8__init_ l Z a0 hw [] o0 o1 i_3 i_1 i_2 k_o1 h0 n0 Z0 sCS O0 hp0 V_o1 hp1 hp2 F_o0_coder E_o0 g_o0 F_o0_value) e0 (W := 0) (by decide) (g := (mkF m 6 #[vr o0, vr o1] [.null, (.int 2), z0, (.ref o1), (.ref o0)])) rfl hml.symm (argsL := [(.ref o1), z0, (.int 2), .null]) (rest := []) (lenOf pd_7 rfl) rfl rfl (own_wr rfl rfl) (hb hby d112)
 obtain ⟨b1_6_4, k1_6_4, rfl, N4q, K4, Q4_0, Q4_1, Q4_2, Q4_3⟩ := hQ4
 have N4 := Fr.app N0 N4q
 have C0 := (KL.refl h0 (WS_r7__init_ Z o0)).trans K4 (naO (own_mi 0 rfl) (naO (own_mi 1 rfl) na0))
 refine ⟨T4, _, none, X4, (fun h => by cases h <;> rfl), ?_, fun fs hr => ?_⟩
 · show Q_r7__init_ Z o0 o1 i_1 i_2 k_o1 i_3 h0 n0 _ T4.heap _
   exact ⟨b1_6_4, k1_6_4, rfl, N4, C0, Q4_0, Q4_1, Q4_2, Q4_3⟩
 refine t_aloadN 1 X0.here hx hby d106 rfl rfl rfl ?_
 refine t_aloadN 2 X0.here hx hby d107 rfl rfl rfl ?_
 refine t_iconst 3 (r := 0) X0.here hx hby d108 (by decide) rfl ?_
 refine t_aloadN 4 X0.here hx hby d109 rfl rfl rfl ?_
 refine own_arlen (pc' := 5) X0 hx hZ e0 V_o1 (hb hby d110) rfl ?_
 refine t_aconst_null 6 X0.here hx hby d111 rfl ?_
 refine st4 _ ?_
 exact X4.returnOut hx hret (hb hby d179) hr
def w7 (hw : HW Z a0) := ow 7 hw rfl
theorem pd_8 : parseMethodDescriptor "([C)V" = some ⟨[(.array .char)], none⟩ := by decide +kernel
def w6 (hw : HW Z a0) := ow 6 hw rfl
def w31 (hw : HW Z a0) := ow 31 hw rfl
def w32 (hw : HW Z a0) := ow 32 hw rfl
def w33 (hw : HW Z a0) := ow 33 hw rfl
def w39 (hw : HW Z a0) := ow 39 hw rfl
abbrev Fd5 (Z : State) (h : Heap) (a : Addr) (v : Value) : Prop := Fld Z h a "com/example/graft_container/graftcontainer/BeanDefinition" "singleton" "Z" v
abbrev sl5 (Z : State) : Nat := Jvm.RoadKit.slotOf Z "com/example/graft_container/graftcontainer/BeanDefinition" "singleton" "Z"
def w41 (hw : HW Z a0) := ow 41 hw rfl
abbrev Fd6 (Z : State) (h : Heap) (a : Addr) (v : Value) : Prop := Fld Z h a "com/example/graft_container/graftcontainer/BeanDefinition" "initMethodRequired" "Z" v
abbrev sl6 (Z : State) : Nat := Jvm.RoadKit.slotOf Z "com/example/graft_container/graftcontainer/BeanDefinition" "initMethodRequired" "Z"
def w43 (hw : HW Z a0) := ow 43 hw rfl
abbrev Fd7 (Z : State) (h : Heap) (a : Addr) (v : Value) : Prop := Fld Z h a "com/example/graft_container/graftcontainer/BeanDefinition" "destroyMethodRequired" "Z" v
abbrev sl7 (Z : State) : Nat := Jvm.RoadKit.slotOf Z "com/example/graft_container/graftcontainer/BeanDefinition" "destroyMethodRequired" "Z"
def w69 (hw : HW Z a0) := ow 69 hw rfl
abbrev Fd8 (Z : State) (h : Heap) (a : Addr) (v : Value) : Prop := Fld Z h a "com/example/graft_container/graftcontainer/BeanDefinition" "dependsOn" "Ljava/util/List;" v
abbrev sl8 (Z : State) : Nat := Jvm.RoadKit.slotOf Z "com/example/graft_container/graftcontainer/BeanDefinition" "dependsOn" "Ljava/util/List;"
def w71 (hw : HW Z a0) := ow 71 hw rfl
abbrev Fd9 (Z : State) (h : Heap) (a : Addr) (v : Value) : Prop := Fld Z h a "com/example/graft_container/graftcontainer/BeanDefinition" "autowireCandidate" "Z" v
abbrev sl9 (Z : State) : Nat := Jvm.RoadKit.slotOf Z "com/example/graft_container/graftcontainer/BeanDefinition" "autowireCandidate" "Z"
def w76 (hw : HW Z a0) := ow 76 hw rfl
abbrev Fd10 (Z : State) (h : Heap) (a : Addr) (v : Value) : Prop := Fld Z h a "com/example/graft_container/graftcontainer/BeanDefinition" "autowireMode" "Lcom/example/graft_container/graftcontainer/BeanDefinition$Autowire;" v
abbrev sl10 (Z : State) : Nat := Jvm.RoadKit.slotOf Z "com/example/graft_container/graftcontainer/BeanDefinition" "autowireMode" "Lcom/example/graft_container/graftcontainer/BeanDefinition$Autowire;"
def w104 (hw : HW Z a0) := ow 104 hw rfl
abbrev Fd11 (Z : State) (h : Heap) (a : Addr) (v : Value) : Prop := Fld Z h a "com/example/graft_container/graftcontainer/BeanDefinition" "qualifiers" "Ljava/util/Map;" v
abbrev sl11 (Z : State) : Nat := Jvm.RoadKit.slotOf Z "com/example/graft_container/graftcontainer/BeanDefinition" "qualifiers" "Ljava/util/Map;"
def w106 (hw : HW Z a0) := ow 106 hw rfl
abbrev Fd12 (Z : State) (h : Heap) (a : Addr) (v : Value) : Prop := Fld Z h a "com/example/graft_container/graftcontainer/BeanDefinition" "propertyValues" "Ljava/util/List;" v
abbrev sl12 (Z : State) : Nat := Jvm.RoadKit.slotOf Z "com/example/graft_container/graftcontainer/BeanDefinition" "propertyValues" "Ljava/util/List;"
def w108 (hw : HW Z a0) := ow 108 hw rfl
abbrev Fd13 (Z : State) (h : Heap) (a : Addr) (v : Value) : Prop := Fld Z h a "com/example/graft_container/graftcontainer/BeanDefinition" "constructorArguments" "Ljava/util/List;" v
abbrev sl13 (Z : State) : Nat := Jvm.RoadKit.slotOf Z "com/example/graft_container/graftcontainer/BeanDefinition" "constructorArguments" "Ljava/util/List;"
def w153 (hw : HW Z a0) := ow 153 hw rfl
abbrev Fd14 (Z : State) (h : Heap) (a : Addr) (v : Value) : Prop := Fld Z h a "com/example/graft_container/graftcontainer/BeanDefinition" "dependsOnView" "Ljava/util/List;" v
abbrev sl14 (Z : State) : Nat := Jvm.RoadKit.slotOf Z "com/example/graft_container/graftcontainer/BeanDefinition" "dependsOnView" "Ljava/util/List;"
def w174 (hw : HW Z a0) := ow 174 hw rfl
abbrev Fd15 (Z : State) (h : Heap) (a : Addr) (v : Value) : Prop := Fld Z h a "com/example/graft_container/graftcontainer/BeanDefinition" "qualifiersView" "Ljava/util/Map;" v
abbrev sl15 (Z : State) : Nat := Jvm.RoadKit.slotOf Z "com/example/graft_container/graftcontainer/BeanDefinition" "qualifiersView" "Ljava/util/Map;"
def w176 (hw : HW Z a0) := ow 176 hw rfl
abbrev Fd16 (Z : State) (h : Heap) (a : Addr) (v : Value) : Prop := Fld Z h a "com/example/graft_container/graftcontainer/BeanDefinition" "propertyValuesView" "Ljava/util/List;" v
abbrev sl16 (Z : State) : Nat := Jvm.RoadKit.slotOf Z "com/example/graft_container/graftcontainer/BeanDefinition" "propertyValuesView" "Ljava/util/List;"
def w178 (hw : HW Z a0) := ow 178 hw rfl
abbrev Fd17 (Z : State) (h : Heap) (a : Addr) (v : Value) : Prop := Fld Z h a "com/example/graft_container/graftcontainer/BeanDefinition" "constructorArgumentsView" "Ljava/util/List;" v
abbrev sl17 (Z : State) : Nat := Jvm.RoadKit.slotOf Z "com/example/graft_container/graftcontainer/BeanDefinition" "constructorArgumentsView" "Ljava/util/List;"
def w186 (hw : HW Z a0) := ow 186 hw rfl
abbrev Fd18 (Z : State) (h : Heap) (a : Addr) (v : Value) : Prop := Fld Z h a "com/example/graft_container/graftcontainer/BeanDefinition" "changeListeners" "Ljava/util/List;" v
abbrev sl18 (Z : State) : Nat := Jvm.RoadKit.slotOf Z "com/example/graft_container/graftcontainer/BeanDefinition" "changeListeners" "Ljava/util/List;"
def w188 (hw : HW Z a0) := ow 188 hw rfl
abbrev Fd19 (Z : State) (h : Heap) (a : Addr) (v : Value) : Prop := Fld Z h a "com/example/graft_container/graftcontainer/BeanDefinition" "outers" "Ljava/util/List;" v
abbrev sl19 (Z : State) : Nat := Jvm.RoadKit.slotOf Z "com/example/graft_container/graftcontainer/BeanDefinition" "outers" "Ljava/util/List;"
def w203 (hw : HW Z a0) := ow 203 hw rfl
abbrev Fd20 (Z : State) (h : Heap) (a : Addr) (v : Value) : Prop := Fld Z h a "com/example/graft_container/graftcontainer/BeanDefinition" "frozen" "Z" v
abbrev sl20 (Z : State) : Nat := Jvm.RoadKit.slotOf Z "com/example/graft_container/graftcontainer/BeanDefinition" "frozen" "Z"
def w310 (hw : HW Z a0) := ow 310 hw rfl
abbrev Fd21 (Z : State) (h : Heap) (a : Addr) (v : Value) : Prop := Fld Z h a "com/example/graft_container/graftcontainer/BeanDefinition" "parentName" "Ljava/lang/String;" v
abbrev sl21 (Z : State) : Nat := Jvm.RoadKit.slotOf Z "com/example/graft_container/graftcontainer/BeanDefinition" "parentName" "Ljava/lang/String;"
def w322 (hw : HW Z a0) := ow 322 hw rfl
abbrev Fd22 (Z : State) (h : Heap) (a : Addr) (v : Value) : Prop := Fld Z h a "com/example/graft_container/graftcontainer/BeanDefinition" "scope" "Ljava/lang/String;" v
abbrev sl22 (Z : State) : Nat := Jvm.RoadKit.slotOf Z "com/example/graft_container/graftcontainer/BeanDefinition" "scope" "Ljava/lang/String;"
def w34 (hw : HW Z a0) := ow 34 hw rfl
abbrev b13_ := prog_7_method_1_code
theorem d180 : decode b13_ 0 = .ok (.aload_n 0, 1) := by decide +kernel
theorem d181 : decode b13_ 1 = .ok (.invokespecial 1, 3) := by decide +kernel
def w37 (hw : HW Z a0) := ow 37 hw rfl
theorem d182 : decode b13_ 4 = .ok (.aload_n 0, 1) := by decide +kernel
theorem d183 : decode b13_ 5 = .ok (.iconst 1, 1) := by decide +kernel
theorem d184 : decode b13_ 6 = .ok (.putfield 7, 3) := by decide +kernel
def w38 (hw : HW Z a0) := ow 38 hw rfl
abbrev Ex5 (Z : State) (h : Heap) (a : Addr) : Prop := Exa Z h a "com/example/graft_container/graftcontainer/BeanDefinition"
theorem d185 : decode b13_ 9 = .ok (.aload_n 0, 1) := by decide +kernel
theorem d186 : decode b13_ 10 = .ok (.iconst 1, 1) := by decide +kernel
theorem d187 : decode b13_ 11 = .ok (.putfield 13, 3) := by decide +kernel
def w40 (hw : HW Z a0) := ow 40 hw rfl
theorem sn_4 (hw : HW Z a0) : sl6 Z ≠ sl5 Z := slot_ne (a0 := a0) (Or.inl (w41 hw)) (Or.inl (w39 hw)) (by decide) (t := .boolean) (t' := .boolean) (by decide) (by decide)
theorem d188 : decode b13_ 14 = .ok (.aload_n 0, 1) := by decide +kernel
theorem d189 : decode b13_ 15 = .ok (.iconst 1, 1) := by decide +kernel
theorem d190 : decode b13_ 16 = .ok (.putfield 16, 3) := by decide +kernel
def w42 (hw : HW Z a0) := ow 42 hw rfl
theorem sn_5 (hw : HW Z a0) : sl7 Z ≠ sl5 Z := slot_ne (a0 := a0) (Or.inl (w43 hw)) (Or.inl (w39 hw)) (by decide) (t := .boolean) (t' := .boolean) (by decide) (by decide)
theorem sn_6 (hw : HW Z a0) : sl7 Z ≠ sl6 Z := slot_ne (a0 := a0) (Or.inl (w43 hw)) (Or.inl (w41 hw)) (by decide) (t := .boolean) (t' := .boolean) (by decide) (by decide)
theorem d191 : decode b13_ 19 = .ok (.aload_n 0, 1) := by decide +kernel
theorem d192 : decode b13_ 20 = .ok (.new 19, 3) := by decide +kernel
def w44 (hw : HW Z a0) := ow 44 hw rfl
def w45 (hw : HW Z a0) := ow 45 hw rfl
def w46 (hw : HW Z a0) := ow 46 hw rfl
def w64 (hw : HW Z a0) := ow 64 hw rfl
abbrev Fd23 (Z : State) (h : Heap) (a : Addr) (v : Value) : Prop := Fld Z h a "java/util/AbstractList" "modCount" "I" v
abbrev sl23 (Z : State) : Nat := Jvm.RoadKit.slotOf Z "java/util/AbstractList" "modCount" "I"
def w67 (hw : HW Z a0) := ow 67 hw rfl
abbrev Fd24 (Z : State) (h : Heap) (a : Addr) (v : Value) : Prop := Fld Z h a "java/util/ArrayList" "elementData" "[Ljava/lang/Object;" v
abbrev sl24 (Z : State) : Nat := Jvm.RoadKit.slotOf Z "java/util/ArrayList" "elementData" "[Ljava/lang/Object;"
theorem d193 : decode b13_ 23 = .ok (.dup, 1) := by decide +kernel
theorem d194 : decode b13_ 24 = .ok (.invokespecial 21, 3) := by decide +kernel
def w47 (hw : HW Z a0) := ow 47 hw rfl
abbrev b14_ := jdk_38_method_2_code
theorem d195 : decode b14_ 0 = .ok (.aload_n 0, 1) := by decide +kernel
theorem d196 : decode b14_ 1 = .ok (.invokespecial 1, 3) := by decide +kernel
def w50 (hw : HW Z a0) := ow 50 hw rfl
abbrev b15_ := jdk_39_method_1_code
theorem d197 : decode b15_ 0 = .ok (.aload_n 0, 1) := by decide +kernel
theorem d198 : decode b15_ 1 = .ok (.invokespecial 1, 3) := by decide +kernel
def w56 (hw : HW Z a0) := ow 56 hw rfl
abbrev b16_ := jdk_22_method_1_code
theorem d199 : decode b16_ 0 = .ok (.aload_n 0, 1) := by decide +kernel
theorem d200 : decode b16_ 1 = .ok (.invokespecial 1, 3) := by decide +kernel
def w62 (hw : HW Z a0) := ow 62 hw rfl
theorem d201 : decode b16_ 4 = .ok (.return_, 1) := by decide +kernel
theorem pn_AbstractCollection820 : plainName "java/util/AbstractCollection" = true := by first | (simp [plainName, overriddenIn]; done) | decide +kernel
abbrev y13__init_ : MethodName := ⟨"java/util/AbstractCollection", "<init>", "()V"⟩
def Q_r15__init_ (Z : State) (o0 : Addr) (h0 : Heap) (n0 : Nat) (v : Option Value) (h : Heap) (L : List Loc) : Prop := v = none ∧ Fr n0 L ∧ h = h0
theorem r15__init_ (l : Launch) (Z : State) (a0 : Array Value) (hw : HW Z a0) (ws : List Jvm.Cond) (o0 : Addr) (h0 : Heap) (n0 : Nat) (Z0 : n0 ≤ h0.size) :
    MF l Z y13__init_ b16_ 1 none ws ⟨1, 0, 0, 12⟩ #[(.ref o0)] h0 (Q_r15__init_ Z o0 h0 n0) := by
 refine own_body (plainFor_of_name pn_AbstractCollection820) (ef_1 o0) (by decide) (by decide) ?_
 intro p e s m below meth c s₁ hx hby hml hown hnm hret hZ hh e0 X0
 have N0 := Fr.nil n0
 obtain ⟨T1, X1, e1, st1⟩ := initO X0 hx hZ hown (w62 hw) (w13 hw) (w14 hw) e0 (g := (mkF m 1 #[vr o0] [(.ref o0)])) rfl hml.symm rfl (hb hby d200) (by decide) (W := 0) (own_wr rfl rfl) (by decide)
 refine ⟨T1, _, none, X1, (fun h => by cases h <;> rfl), ?_, fun fs hr => ?_⟩
 · show Q_r15__init_ Z o0 h0 n0 _ T1.heap _
   rw [e1]
   exact ⟨rfl, N0, rfl⟩
 refine t_aloadN 1 X0.here hx hby d199 rfl rfl rfl ?_
 refine st1 _ ?_
 exact X1.returnOut hx hret (hb hby d201) hr
def w61 (hw : HW Z a0) := ow 61 hw rfl
def w60 (hw : HW Z a0) := ow 60 hw rfl
theorem pd_9 : parseMethodDescriptor "()V" = some ⟨[], none⟩ := by decide +kernel
def w57 (hw : HW Z a0) := ow 57 hw rfl
theorem d202 : decode b15_ 4 = .ok (.aload_n 0, 1) := by decide +kernel
theorem d203 : decode b15_ 5 = .ok (.iconst 0, 1) := by decide +kernel
theorem d204 : decode b15_ 6 = .ok (.putfield 7, 3) := by decide +kernel
def w63 (hw : HW Z a0) := ow 63 hw rfl
theorem d205 : decode b15_ 9 = .ok (.return_, 1) := by decide +kernel
theorem pn_AbstractList196 : plainName "java/util/AbstractList" = true := by first | (simp [plainName, overriddenIn]; done) | decide +kernel
abbrev y14__init_ : MethodName := ⟨"java/util/AbstractList", "<init>", "()V"⟩
def WS_r14__init_ (Z : State) (o0 : Addr) : List (Addr × Nat) := [(o0, (sl23 Z))]
def Q_r14__init_ (Z : State) (o0 : Addr) (h0 : Heap) (n0 : Nat) (v : Option Value) (h : Heap) (L : List Loc) : Prop := v = none ∧ Fr n0 L ∧ KL h0 h (WS_r14__init_ Z o0) ∧ Fd23 Z h o0 z0
theorem r14__init_ (l : Launch) (Z : State) (a0 : Array Value) (hw : HW Z a0) (ws : List Jvm.Cond) (o0 : Addr) (h0 : Heap) (n0 : Nat) (Z0 : n0 ≤ h0.size) (F_o0_modCount : Fd23 Z h0 o0 z0) (E_o0 : Ex0 Z h0 o0) (g_o0 : n0 ≤ o0) :
    MF l Z y14__init_ b15_ 1 none ws ⟨2, 0, 0, 24⟩ #[(.ref o0)] h0 (Q_r14__init_ Z o0 h0 n0) := by
 refine own_body (plainFor_of_name pn_AbstractList196) (ef_1 o0) (by decide) (by decide) ?_
 intro p e s m below meth c s₁ hx hby hml hown hnm hret hZ hh e0 X0
 have N0 := Fr.nil n0
 obtain ⟨_, T1, L1, X1, hQ1, st1⟩ := own_init X0 hx hZ rfl hown (w56 hw) (w57 hw) (w60 hw) (w61 hw) (by decide) (r15__init_ l Z a0 hw [] o0 h0 n0 Z0) e0 (W := 0) (by decide) (g := (mkF m 1 #[vr o0] [(.ref o0)])) rfl hml.symm (argsL := []) (rest := []) (lenOf pd_9 rfl) rfl rfl (own_wr rfl rfl) (hb hby d198)
 obtain ⟨rfl, N1q, e1⟩ := hQ1
 have N1 := Fr.app N0 N1q
 obtain ⟨T2, h2, X2, e2, W2, st2⟩ := putF X1 hx hZ hown (host := "") (Or.inl (w63 hw)) Via.refl e1 F_o0_modCount E_o0 (Or.inl (w64 hw)) (w45 hw) (ty := .int) (by decide) rfl rfl (g := (mkF m 6 #[vr o0] [z0, (.ref o0)])) rfl rfl (hb hby d204)
 have K2 := KL.ofW W2
 have Fw2 : Fd23 Z h2 o0 z0 := Fld.same W2 F_o0_modCount
 have N2 := Fr.snoc X2 N1 g_o0
 have C0 := (KL.refl h0 (WS_r14__init_ Z o0)).trans K2 (naO (own_mi 0 rfl) na0)
 refine ⟨T2, _, none, X2, (fun h => by cases h <;> rfl), ?_, fun fs hr => ?_⟩
 · show Q_r14__init_ Z o0 h0 n0 _ T2.heap _
   rw [e2]
   exact ⟨rfl, N2, C0, Fw2⟩
 refine t_aloadN 1 X0.here hx hby d197 rfl rfl rfl ?_
 refine st1 _ ?_
 refine t_aloadN 5 X1.here hx hby d202 rfl rfl rfl ?_
 refine t_iconst 6 (r := 0) X1.here hx hby d203 (by decide) rfl ?_
 refine st2 _ ?_
 exact X2.returnOut hx hret (hb hby d205) hr
def w55 (hw : HW Z a0) := ow 55 hw rfl
def w54 (hw : HW Z a0) := ow 54 hw rfl
def w51 (hw : HW Z a0) := ow 51 hw rfl
theorem d206 : decode b14_ 4 = .ok (.aload_n 0, 1) := by decide +kernel
theorem d207 : decode b14_ 5 = .ok (.getstatic 39, 3) := by decide +kernel
def w65 (hw : HW Z a0) := ow 65 hw rfl
theorem d208 : decode b14_ 8 = .ok (.putfield 9, 3) := by decide +kernel
def w66 (hw : HW Z a0) := ow 66 hw rfl
abbrev ft3_ : FieldType := (.array (.object "java/lang/Object"))
theorem sn_7 (hw : HW Z a0) : sl24 Z ≠ sl23 Z := slot_ne (a0 := a0) (Or.inl (w67 hw)) (Or.inl (w64 hw)) (by decide) (t := ft3_) (t' := .int) (by decide) (by decide)
theorem d209 : decode b14_ 11 = .ok (.return_, 1) := by decide +kernel
theorem sn_8 (hw : HW Z a0) : sl23 Z ≠ sl24 Z := slot_ne (a0 := a0) (Or.inl (w64 hw)) (Or.inl (w67 hw)) (by decide) (t := .int) (t' := ft3_) (by decide) (by decide)
theorem pn_ArrayList884 : plainName "java/util/ArrayList" = true := by first | (simp [plainName, overriddenIn]; done) | decide +kernel
abbrev y15__init_ : MethodName := ⟨"java/util/ArrayList", "<init>", "()V"⟩
def WS_r13__init_ (Z : State) (o0 : Addr) : List (Addr × Nat) := [(o0, (sl23 Z)), (o0, (sl24 Z))]
def Q_r13__init_ (Z : State) (o0 o_2 : Addr) (h0 : Heap) (n0 : Nat) (v : Option Value) (h : Heap) (L : List Loc) : Prop := v = none ∧ Fr n0 L ∧ KL h0 h (WS_r13__init_ Z o0) ∧ Fd23 Z h o0 z0 ∧ Fd24 Z h o0 (.ref o_2)
theorem r13__init_ (l : Launch) (Z : State) (a0 : Array Value) (hw : HW Z a0) (ws : List Jvm.Cond) (o0 o_2 : Addr) (h0 : Heap) (n0 : Nat) (Z0 : n0 ≤ h0.size) (F_o0_modCount : Fd23 Z h0 o0 z0) (E_o0 : Ex0 Z h0 o0) (g_o0 : n0 ≤ o0) (S_DEFAULTCAPACITY_EMPTY_ELEMENTDATA : Sa0 Z (.ref o_2)) (O0 : Old Z n0 h0) (F_o0_elementData : Fd24 Z h0 o0 .null) :
    MF l Z y15__init_ b14_ 1 none ws ⟨3, 0, 0, 36⟩ #[(.ref o0)] h0 (Q_r13__init_ Z o0 o_2 h0 n0) := by
 refine own_body (plainFor_of_name pn_ArrayList884) (ef_1 o0) (by decide) (by decide) ?_
 intro p e s m below meth c s₁ hx hby hml hown hnm hret hZ hh e0 X0
 have N0 := Fr.nil n0
 obtain ⟨_, T1, L1, X1, hQ1, st1⟩ := own_init X0 hx hZ rfl hown (w50 hw) (w51 hw) (w54 hw) (w55 hw) (by decide) (r14__init_ l Z a0 hw [] o0 h0 n0 Z0 F_o0_modCount E_o0 g_o0) e0 (W := 0) (by decide) (g := (mkF m 1 #[vr o0] [(.ref o0)])) rfl hml.symm (argsL := []) (rest := []) (lenOf pd_9 rfl) rfl rfl (own_wr rfl rfl) (hb hby d196)
 obtain ⟨rfl, N1q, K1, Q1_0⟩ := hQ1
 have N1 := Fr.app N0 N1q
 have f3 := (kOld K1 O0 (naG g_o0 na0))
 obtain ⟨T4, X4, e4, st4⟩ := getS2 X1 hx hZ hown (host := "") (Or.inl (w65 hw)) Via.refl rfl (Sta.ext f3.2 S_DEFAULTCAPACITY_EMPTY_ELEMENTDATA) (g := (mkF m 5 #[vr o0] [(.ref o0)])) rfl (hb hby d207)
 have f5 := (kFld K1 F_o0_elementData (nwR (sn_7 hw) nw0))
 have f6 := (kExa K1 E_o0)
 obtain ⟨T7, h7, X7, e7, W7, st7⟩ := putF X4 hx hZ hown (host := "") (Or.inl (w66 hw)) Via.refl e4 f5 f6 (Or.inl (w67 hw)) (w45 hw) (ty := (.array (.object "java/lang/Object"))) (by decide) rfl rfl (g := (mkF m 8 #[vr o0] [(.ref o_2), (.ref o0)])) rfl rfl (hb hby d208)
 have K7 := KL.ofW W7
 have Fw7 : Fd24 Z h7 o0 (.ref o_2) := Fld.same W7 f5
 have N7 := Fr.snoc X7 N1 g_o0
 have C0 := (KL.refl h0 (WS_r13__init_ Z o0)).trans K1 (naO (own_mi 0 rfl) na0)
 have C1 := C0.trans K7 (naO (own_mi 1 rfl) na0)
 have f8 := (kFld K7 Q1_0 (nwR (sn_8 hw) nw0))
 refine ⟨T7, _, none, X7, (fun h => by cases h <;> rfl), ?_, fun fs hr => ?_⟩
 · show Q_r13__init_ Z o0 o_2 h0 n0 _ T7.heap _
   rw [e7]
   exact ⟨rfl, N7, C1, f8, Fw7⟩
 refine t_aloadN 1 X0.here hx hby d195 rfl rfl rfl ?_
 refine st1 _ ?_
 refine t_aloadN 5 X1.here hx hby d206 rfl rfl rfl ?_
 refine st4 _ ?_
 refine st7 _ ?_
 exact X7.returnOut hx hret (hb hby d209) hr
def w49 (hw : HW Z a0) := ow 49 hw rfl
def w48 (hw : HW Z a0) := ow 48 hw rfl
theorem d210 : decode b13_ 27 = .ok (.putfield 22, 3) := by decide +kernel
def w68 (hw : HW Z a0) := ow 68 hw rfl
theorem sn_9 (hw : HW Z a0) : sl8 Z ≠ sl5 Z := slot_ne (a0 := a0) (Or.inr (w69 hw)) (Or.inl (w39 hw)) (by decide) (t := ft0_) (t' := .boolean) (by decide) (by decide)
theorem sn_10 (hw : HW Z a0) : sl8 Z ≠ sl6 Z := slot_ne (a0 := a0) (Or.inr (w69 hw)) (Or.inl (w41 hw)) (by decide) (t := ft0_) (t' := .boolean) (by decide) (by decide)
theorem sn_11 (hw : HW Z a0) : sl8 Z ≠ sl7 Z := slot_ne (a0 := a0) (Or.inr (w69 hw)) (Or.inl (w43 hw)) (by decide) (t := ft0_) (t' := .boolean) (by decide) (by decide)
theorem d211 : decode b13_ 30 = .ok (.aload_n 0, 1) := by decide +kernel
theorem d212 : decode b13_ 31 = .ok (.iconst 1, 1) := by decide +kernel
theorem d213 : decode b13_ 32 = .ok (.putfield 26, 3) := by decide +kernel
def w70 (hw : HW Z a0) := ow 70 hw rfl
theorem sn_12 (hw : HW Z a0) : sl9 Z ≠ sl5 Z := slot_ne (a0 := a0) (Or.inl (w71 hw)) (Or.inl (w39 hw)) (by decide) (t := .boolean) (t' := .boolean) (by decide) (by decide)
theorem sn_13 (hw : HW Z a0) : sl9 Z ≠ sl6 Z := slot_ne (a0 := a0) (Or.inl (w71 hw)) (Or.inl (w41 hw)) (by decide) (t := .boolean) (t' := .boolean) (by decide) (by decide)
theorem sn_14 (hw : HW Z a0) : sl9 Z ≠ sl7 Z := slot_ne (a0 := a0) (Or.inl (w71 hw)) (Or.inl (w43 hw)) (by decide) (t := .boolean) (t' := .boolean) (by decide) (by decide)
theorem sn_15 (hw : HW Z a0) : sl9 Z ≠ sl8 Z := slot_ne (a0 := a0) (Or.inl (w71 hw)) (Or.inr (w69 hw)) (by decide) (t := .boolean) (t' := ft0_) (by decide) (by decide)
theorem d214 : decode b13_ 35 = .ok (.aload_n 0, 1) := by decide +kernel
theorem d215 : decode b13_ 36 = .ok (.getstatic 29, 3) := by decide +kernel
def w72 (hw : HW Z a0) := ow 72 hw rfl
theorem d216 : decode b13_ 39 = .ok (.putfield 35, 3) := by decide +kernel
def w75 (hw : HW Z a0) := ow 75 hw rfl
abbrev ft4_ : FieldType := .object "com/example/graft_container/graftcontainer/BeanDefinition$Autowire"
theorem sn_16 (hw : HW Z a0) : sl10 Z ≠ sl5 Z := slot_ne (a0 := a0) (Or.inl (w76 hw)) (Or.inl (w39 hw)) (by decide) (t := ft4_) (t' := .boolean) (by decide) (by decide)
theorem sn_17 (hw : HW Z a0) : sl10 Z ≠ sl6 Z := slot_ne (a0 := a0) (Or.inl (w76 hw)) (Or.inl (w41 hw)) (by decide) (t := ft4_) (t' := .boolean) (by decide) (by decide)
theorem sn_18 (hw : HW Z a0) : sl10 Z ≠ sl7 Z := slot_ne (a0 := a0) (Or.inl (w76 hw)) (Or.inl (w43 hw)) (by decide) (t := ft4_) (t' := .boolean) (by decide) (by decide)
theorem sn_19 (hw : HW Z a0) : sl10 Z ≠ sl8 Z := slot_ne (a0 := a0) (Or.inl (w76 hw)) (Or.inr (w69 hw)) (by decide) (t := ft4_) (t' := ft0_) (by decide) (by decide)
theorem sn_20 (hw : HW Z a0) : sl10 Z ≠ sl9 Z := slot_ne (a0 := a0) (Or.inl (w76 hw)) (Or.inl (w71 hw)) (by decide) (t := ft4_) (t' := .boolean) (by decide) (by decide)
theorem d217 : decode b13_ 42 = .ok (.aload_n 0, 1) := by decide +kernel
theorem d218 : decode b13_ 43 = .ok (.new 38, 3) := by decide +kernel
def w77 (hw : HW Z a0) := ow 77 hw rfl
def w78 (hw : HW Z a0) := ow 78 hw rfl
def w79 (hw : HW Z a0) := ow 79 hw rfl
def w98 (hw : HW Z a0) := ow 98 hw rfl
abbrev Fd25 (Z : State) (h : Heap) (a : Addr) (v : Value) : Prop := Fld Z h a "java/util/HashMap" "loadFactor" "F" v
abbrev sl25 (Z : State) : Nat := Jvm.RoadKit.slotOf Z "java/util/HashMap" "loadFactor" "F"
def w100 (hw : HW Z a0) := ow 100 hw rfl
abbrev Fd26 (Z : State) (h : Heap) (a : Addr) (v : Value) : Prop := Fld Z h a "java/util/LinkedHashMap" "putMode" "I" v
abbrev sl26 (Z : State) : Nat := Jvm.RoadKit.slotOf Z "java/util/LinkedHashMap" "putMode" "I"
def w102 (hw : HW Z a0) := ow 102 hw rfl
abbrev Fd27 (Z : State) (h : Heap) (a : Addr) (v : Value) : Prop := Fld Z h a "java/util/LinkedHashMap" "accessOrder" "Z" v
abbrev sl27 (Z : State) : Nat := Jvm.RoadKit.slotOf Z "java/util/LinkedHashMap" "accessOrder" "Z"
theorem d219 : decode b13_ 46 = .ok (.dup, 1) := by decide +kernel
theorem d220 : decode b13_ 47 = .ok (.invokespecial 40, 3) := by decide +kernel
def w80 (hw : HW Z a0) := ow 80 hw rfl
abbrev b17_ := jdk_94_method_16_code
theorem d221 : decode b17_ 0 = .ok (.aload_n 0, 1) := by decide +kernel
theorem d222 : decode b17_ 1 = .ok (.invokespecial 87, 3) := by decide +kernel
def w83 (hw : HW Z a0) := ow 83 hw rfl
abbrev b18_ := jdk_69_method_7_code
theorem d223 : decode b18_ 0 = .ok (.aload_n 0, 1) := by decide +kernel
theorem d224 : decode b18_ 1 = .ok (.invokespecial 43, 3) := by decide +kernel
def w89 (hw : HW Z a0) := ow 89 hw rfl
abbrev b19_ := jdk_71_method_1_code
theorem d225 : decode b19_ 0 = .ok (.aload_n 0, 1) := by decide +kernel
theorem d226 : decode b19_ 1 = .ok (.invokespecial 1, 3) := by decide +kernel
def w95 (hw : HW Z a0) := ow 95 hw rfl
theorem d227 : decode b19_ 4 = .ok (.return_, 1) := by decide +kernel
theorem pn_AbstractMap70 : plainName "java/util/AbstractMap" = true := by first | (simp [plainName, overriddenIn]; done) | decide +kernel
abbrev y16__init_ : MethodName := ⟨"java/util/AbstractMap", "<init>", "()V"⟩
def Q_r18__init_ (Z : State) (o0 : Addr) (h0 : Heap) (n0 : Nat) (v : Option Value) (h : Heap) (L : List Loc) : Prop := v = none ∧ Fr n0 L ∧ h = h0
theorem r18__init_ (l : Launch) (Z : State) (a0 : Array Value) (hw : HW Z a0) (ws : List Jvm.Cond) (o0 : Addr) (h0 : Heap) (n0 : Nat) (Z0 : n0 ≤ h0.size) :
    MF l Z y16__init_ b19_ 1 none ws ⟨1, 0, 0, 12⟩ #[(.ref o0)] h0 (Q_r18__init_ Z o0 h0 n0) := by
 refine own_body (plainFor_of_name pn_AbstractMap70) (ef_1 o0) (by decide) (by decide) ?_
 intro p e s m below meth c s₁ hx hby hml hown hnm hret hZ hh e0 X0
 have N0 := Fr.nil n0
 obtain ⟨T1, X1, e1, st1⟩ := initO X0 hx hZ hown (w95 hw) (w13 hw) (w14 hw) e0 (g := (mkF m 1 #[vr o0] [(.ref o0)])) rfl hml.symm rfl (hb hby d226) (by decide) (W := 0) (own_wr rfl rfl) (by decide)
 refine ⟨T1, _, none, X1, (fun h => by cases h <;> rfl), ?_, fun fs hr => ?_⟩
 · show Q_r18__init_ Z o0 h0 n0 _ T1.heap _
   rw [e1]
   exact ⟨rfl, N0, rfl⟩
 refine t_aloadN 1 X0.here hx hby d225 rfl rfl rfl ?_
 refine st1 _ ?_
 exact X1.returnOut hx hret (hb hby d227) hr
def w94 (hw : HW Z a0) := ow 94 hw rfl
def w93 (hw : HW Z a0) := ow 93 hw rfl
def w90 (hw : HW Z a0) := ow 90 hw rfl
theorem d228 : decode b18_ 4 = .ok (.aload_n 0, 1) := by decide +kernel
theorem d229 : decode b18_ 5 = .ok (.ldc 92, 2) := by decide +kernel
def w96 (hw : HW Z a0) := ow 96 hw rfl
theorem d230 : decode b18_ 7 = .ok (.putfield 81, 3) := by decide +kernel
def w97 (hw : HW Z a0) := ow 97 hw rfl
theorem d231 : decode b18_ 10 = .ok (.return_, 1) := by decide +kernel
theorem pn_HashMap635 : plainName "java/util/HashMap" = true := by first | (simp [plainName, overriddenIn]; done) | decide +kernel
abbrev y17__init_ : MethodName := ⟨"java/util/HashMap", "<init>", "()V"⟩
def WS_r17__init_ (Z : State) (o0 : Addr) : List (Addr × Nat) := [(o0, (sl25 Z))]
def Q_r17__init_ (Z : State) (o0 : Addr) (u_2 : Value) (h0 : Heap) (n0 : Nat) (v : Option Value) (h : Heap) (L : List Loc) : Prop := v = none ∧ Fr n0 L ∧ KL h0 h (WS_r17__init_ Z o0) ∧ Fd25 Z h o0 (.float (1061158912 : UInt32))
theorem r17__init_ (l : Launch) (Z : State) (a0 : Array Value) (hw : HW Z a0) (ws : List Jvm.Cond) (o0 : Addr) (u_2 : Value) (h0 : Heap) (n0 : Nat) (Z0 : n0 ≤ h0.size) (F_o0_loadFactor : Fd25 Z h0 o0 u_2) (E_o0 : Ex2 Z h0 o0) (g_o0 : n0 ≤ o0) :
    MF l Z y17__init_ b18_ 1 none ws ⟨2, 0, 0, 24⟩ #[(.ref o0)] h0 (Q_r17__init_ Z o0 u_2 h0 n0) := by
 refine own_body (plainFor_of_name pn_HashMap635) (ef_1 o0) (by decide) (by decide) ?_
 intro p e s m below meth c s₁ hx hby hml hown hnm hret hZ hh e0 X0
 have N0 := Fr.nil n0
 obtain ⟨_, T1, L1, X1, hQ1, st1⟩ := own_init X0 hx hZ rfl hown (w89 hw) (w90 hw) (w93 hw) (w94 hw) (by decide) (r18__init_ l Z a0 hw [] o0 h0 n0 Z0) e0 (W := 0) (by decide) (g := (mkF m 1 #[vr o0] [(.ref o0)])) rfl hml.symm (argsL := []) (rest := []) (lenOf pd_9 rfl) rfl rfl (own_wr rfl rfl) (hb hby d224)
 obtain ⟨rfl, N1q, e1⟩ := hQ1
 have N1 := Fr.app N0 N1q
 obtain ⟨T3, h3, X3, e3, W3, st3⟩ := putF X1 hx hZ hown (host := "") (Or.inl (w97 hw)) Via.refl e1 F_o0_loadFactor E_o0 (Or.inr ⟨(w98 hw), rfl, hnm⟩) (w78 hw) (ty := .float) (by decide) rfl rfl (g := (mkF m 7 #[vr o0] [(.float (1061158912 : UInt32)), (.ref o0)])) rfl rfl (hb hby d230)
 have K3 := KL.ofW W3
 have Fw3 : Fd25 Z h3 o0 (.float (1061158912 : UInt32)) := Fld.same W3 F_o0_loadFactor
 have N3 := Fr.snoc X3 N1 g_o0
 have C0 := (KL.refl h0 (WS_r17__init_ Z o0)).trans K3 (naO (own_mi 0 rfl) na0)
 refine ⟨T3, _, none, X3, (fun h => by cases h <;> rfl), ?_, fun fs hr => ?_⟩
 · show Q_r17__init_ Z o0 u_2 h0 n0 _ T3.heap _
   rw [e3]
   exact ⟨rfl, N3, C0, Fw3⟩
 refine t_aloadN 1 X0.here hx hby d223 rfl rfl rfl ?_
 refine st1 _ ?_
 refine t_aloadN 5 X1.here hx hby d228 rfl rfl rfl ?_
 refine X1.ldcFloatC hx hown (mvT hZ (w96 hw)) (g := (mkF m 5 #[vr o0] [(.ref o0)])) rfl (hb hby d229) _ ?_
 refine st3 _ ?_
 exact X3.returnOut hx hret (hb hby d231) hr
def w88 (hw : HW Z a0) := ow 88 hw rfl
def w87 (hw : HW Z a0) := ow 87 hw rfl
def w84 (hw : HW Z a0) := ow 84 hw rfl
theorem d232 : decode b17_ 4 = .ok (.aload_n 0, 1) := by decide +kernel
theorem d233 : decode b17_ 5 = .ok (.iconst 0, 1) := by decide +kernel
theorem d234 : decode b17_ 6 = .ok (.putfield 1, 3) := by decide +kernel
def w99 (hw : HW Z a0) := ow 99 hw rfl
theorem sn_21 (hw : HW Z a0) : sl26 Z ≠ sl25 Z := slot_ne (a0 := a0) (Or.inl (w100 hw)) (Or.inr (w98 hw)) (by decide) (t := .int) (t' := .float) (by decide) (by decide)
theorem d235 : decode b17_ 9 = .ok (.aload_n 0, 1) := by decide +kernel
theorem d236 : decode b17_ 10 = .ok (.iconst 0, 1) := by decide +kernel
theorem d237 : decode b17_ 11 = .ok (.putfield 64, 3) := by decide +kernel
def w101 (hw : HW Z a0) := ow 101 hw rfl
theorem sn_22 (hw : HW Z a0) : sl27 Z ≠ sl25 Z := slot_ne (a0 := a0) (Or.inr (w102 hw)) (Or.inr (w98 hw)) (by decide) (t := .boolean) (t' := .float) (by decide) (by decide)
theorem sn_23 (hw : HW Z a0) : sl27 Z ≠ sl26 Z := slot_ne (a0 := a0) (Or.inr (w102 hw)) (Or.inl (w100 hw)) (by decide) (t := .boolean) (t' := .int) (by decide) (by decide)
theorem d238 : decode b17_ 14 = .ok (.return_, 1) := by decide +kernel
theorem sn_24 (hw : HW Z a0) : sl25 Z ≠ sl26 Z := slot_ne (a0 := a0) (Or.inr (w98 hw)) (Or.inl (w100 hw)) (by decide) (t := .float) (t' := .int) (by decide) (by decide)
theorem sn_25 (hw : HW Z a0) : sl25 Z ≠ sl27 Z := slot_ne (a0 := a0) (Or.inr (w98 hw)) (Or.inr (w102 hw)) (by decide) (t := .float) (t' := .boolean) (by decide) (by decide)
theorem sn_26 (hw : HW Z a0) : sl26 Z ≠ sl27 Z := slot_ne (a0 := a0) (Or.inl (w100 hw)) (Or.inr (w102 hw)) (by decide) (t := .int) (t' := .boolean) (by decide) (by decide)
theorem pn_LinkedHashMap237 : plainName "java/util/LinkedHashMap" = true := by first | (simp [plainName, overriddenIn]; done) | decide +kernel
abbrev y18__init_ : MethodName := ⟨"java/util/LinkedHashMap", "<init>", "()V"⟩
def WS_r16__init_ (Z : State) (o0 : Addr) : List (Addr × Nat) := [(o0, (sl25 Z)), (o0, (sl26 Z)), (o0, (sl27 Z))]
def Q_r16__init_ (Z : State) (o0 : Addr) (u_1 : Value) (h0 : Heap) (n0 : Nat) (v : Option Value) (h : Heap) (L : List Loc) : Prop := v = none ∧ Fr n0 L ∧ KL h0 h (WS_r16__init_ Z o0) ∧ Fd25 Z h o0 (.float (1061158912 : UInt32)) ∧ Fd26 Z h o0 z0 ∧ Fd27 Z h o0 z0
theorem r16__init_ (l : Launch) (Z : State) (a0 : Array Value) (hw : HW Z a0) (ws : List Jvm.Cond) (o0 : Addr) (u_1 : Value) (h0 : Heap) (n0 : Nat) (Z0 : n0 ≤ h0.size) (F_o0_loadFactor : Fd25 Z h0 o0 u_1) (E_o0 : Ex2 Z h0 o0) (g_o0 : n0 ≤ o0) (F_o0_putMode : Fd26 Z h0 o0 z0) (F_o0_accessOrder : Fd27 Z h0 o0 z0) :
    MF l Z y18__init_ b17_ 1 none ws ⟨3, 0, 0, 36⟩ #[(.ref o0)] h0 (Q_r16__init_ Z o0 u_1 h0 n0) := by
 refine own_body (plainFor_of_name pn_LinkedHashMap237) (ef_1 o0) (by decide) (by decide) ?_
 intro p e s m below meth c s₁ hx hby hml hown hnm hret hZ hh e0 X0
 have N0 := Fr.nil n0
 obtain ⟨_, T2, L2, X2, hQ2, st2⟩ := own_init X0 hx hZ rfl hown (w83 hw) (w84 hw) (w87 hw) (w88 hw) (by decide) (r17__init_ l Z a0 hw [] o0 u_1 h0 n0 Z0 F_o0_loadFactor E_o0 g_o0) e0 (W := 0) (by decide) (g := (mkF m 1 #[vr o0] [(.ref o0)])) rfl hml.symm (argsL := []) (rest := []) (lenOf pd_9 rfl) rfl rfl (own_wr rfl rfl) (hb hby d222)
 obtain ⟨rfl, N2q, K2, Q2_0⟩ := hQ2
 have N2 := Fr.app N0 N2q
 have f3 := (kFld K2 F_o0_putMode (nwR (sn_21 hw) nw0))
 have f4 := (kExa K2 E_o0)
 obtain ⟨T5, h5, X5, e5, W5, st5⟩ := putF X2 hx hZ hown (host := "") (Or.inl (w99 hw)) Via.refl rfl f3 f4 (Or.inl (w100 hw)) (w78 hw) (ty := .int) (by decide) rfl rfl (g := (mkF m 6 #[vr o0] [z0, (.ref o0)])) rfl rfl (hb hby d234)
 have K5 := KL.ofW W5
 have Fw5 : Fd26 Z h5 o0 z0 := Fld.same W5 f3
 have N5 := Fr.snoc X5 N2 g_o0
 have f6 := (kFld K5 (kFld K2 F_o0_accessOrder (nwR (sn_22 hw) nw0)) (nwR (sn_23 hw) nw0))
 have f7 := (kExa K5 f4)
 obtain ⟨T8, h8, X8, e8, W8, st8⟩ := putF X5 hx hZ hown (host := "") (Or.inl (w101 hw)) Via.refl e5 f6 f7 (Or.inr ⟨(w102 hw), rfl, hnm⟩) (w78 hw) (ty := .boolean) (by decide) (by decide) (by decide) (g := (mkF m 11 #[vr o0] [z0, (.ref o0)])) rfl rfl (hb hby d237)
 have K8 := KL.ofW W8
 have Fw8 : Fd27 Z h8 o0 z0 := Fld.same W8 f6
 have N8 := Fr.snoc X8 N5 g_o0
 have C0 := (KL.refl h0 (WS_r16__init_ Z o0)).trans K2 (naO (own_mi 0 rfl) na0)
 have C1 := C0.trans K5 (naO (own_mi 1 rfl) na0)
 have C2 := C1.trans K8 (naO (own_mi 2 rfl) na0)
 have f9 := (kFld K8 (kFld K5 Q2_0 (nwR (sn_24 hw) nw0)) (nwR (sn_25 hw) nw0))
 have f10 := (kFld K8 Fw5 (nwR (sn_26 hw) nw0))
 refine ⟨T8, _, none, X8, (fun h => by cases h <;> rfl), ?_, fun fs hr => ?_⟩
 · show Q_r16__init_ Z o0 u_1 h0 n0 _ T8.heap _
   rw [e8]
   exact ⟨rfl, N8, C2, f9, f10, Fw8⟩
 refine t_aloadN 1 X0.here hx hby d221 rfl rfl rfl ?_
 refine st2 _ ?_
 refine t_aloadN 5 X2.here hx hby d232 rfl rfl rfl ?_
 refine t_iconst 6 (r := 0) X2.here hx hby d233 (by decide) rfl ?_
 refine st5 _ ?_
 refine t_aloadN 10 X5.here hx hby d235 rfl rfl rfl ?_
 refine t_iconst 11 (r := 0) X5.here hx hby d236 (by decide) rfl ?_
 refine st8 _ ?_
 exact X8.returnOut hx hret (hb hby d238) hr
def w82 (hw : HW Z a0) := ow 82 hw rfl
def w81 (hw : HW Z a0) := ow 81 hw rfl
theorem d239 : decode b13_ 50 = .ok (.putfield 41, 3) := by decide +kernel
def w103 (hw : HW Z a0) := ow 103 hw rfl
abbrev ft5_ : FieldType := .object "java/util/Map"
theorem sn_27 (hw : HW Z a0) : sl11 Z ≠ sl5 Z := slot_ne (a0 := a0) (Or.inr (w104 hw)) (Or.inl (w39 hw)) (by decide) (t := ft5_) (t' := .boolean) (by decide) (by decide)
theorem sn_28 (hw : HW Z a0) : sl11 Z ≠ sl6 Z := slot_ne (a0 := a0) (Or.inr (w104 hw)) (Or.inl (w41 hw)) (by decide) (t := ft5_) (t' := .boolean) (by decide) (by decide)
theorem sn_29 (hw : HW Z a0) : sl11 Z ≠ sl7 Z := slot_ne (a0 := a0) (Or.inr (w104 hw)) (Or.inl (w43 hw)) (by decide) (t := ft5_) (t' := .boolean) (by decide) (by decide)
theorem sn_30 (hw : HW Z a0) : sl11 Z ≠ sl8 Z := slot_ne (a0 := a0) (Or.inr (w104 hw)) (Or.inr (w69 hw)) (by decide) (t := ft5_) (t' := ft0_) (by decide) (by decide)
theorem sn_31 (hw : HW Z a0) : sl11 Z ≠ sl9 Z := slot_ne (a0 := a0) (Or.inr (w104 hw)) (Or.inl (w71 hw)) (by decide) (t := ft5_) (t' := .boolean) (by decide) (by decide)
theorem sn_32 (hw : HW Z a0) : sl11 Z ≠ sl10 Z := slot_ne (a0 := a0) (Or.inr (w104 hw)) (Or.inl (w76 hw)) (by decide) (t := ft5_) (t' := ft4_) (by decide) (by decide)
theorem d240 : decode b13_ 53 = .ok (.aload_n 0, 1) := by decide +kernel
theorem d241 : decode b13_ 54 = .ok (.new 19, 3) := by decide +kernel
theorem d242 : decode b13_ 57 = .ok (.dup, 1) := by decide +kernel
theorem d243 : decode b13_ 58 = .ok (.invokespecial 21, 3) := by decide +kernel
theorem d244 : decode b13_ 61 = .ok (.putfield 45, 3) := by decide +kernel
def w105 (hw : HW Z a0) := ow 105 hw rfl
theorem sn_33 (hw : HW Z a0) : sl12 Z ≠ sl5 Z := slot_ne (a0 := a0) (Or.inr (w106 hw)) (Or.inl (w39 hw)) (by decide) (t := ft0_) (t' := .boolean) (by decide) (by decide)
theorem sn_34 (hw : HW Z a0) : sl12 Z ≠ sl6 Z := slot_ne (a0 := a0) (Or.inr (w106 hw)) (Or.inl (w41 hw)) (by decide) (t := ft0_) (t' := .boolean) (by decide) (by decide)
theorem sn_35 (hw : HW Z a0) : sl12 Z ≠ sl7 Z := slot_ne (a0 := a0) (Or.inr (w106 hw)) (Or.inl (w43 hw)) (by decide) (t := ft0_) (t' := .boolean) (by decide) (by decide)
theorem sn_36 (hw : HW Z a0) : sl12 Z ≠ sl8 Z := slot_ne (a0 := a0) (Or.inr (w106 hw)) (Or.inr (w69 hw)) (by decide) (t := ft0_) (t' := ft0_) (by decide) (by decide)
theorem sn_37 (hw : HW Z a0) : sl12 Z ≠ sl9 Z := slot_ne (a0 := a0) (Or.inr (w106 hw)) (Or.inl (w71 hw)) (by decide) (t := ft0_) (t' := .boolean) (by decide) (by decide)
theorem sn_38 (hw : HW Z a0) : sl12 Z ≠ sl10 Z := slot_ne (a0 := a0) (Or.inr (w106 hw)) (Or.inl (w76 hw)) (by decide) (t := ft0_) (t' := ft4_) (by decide) (by decide)
theorem sn_39 (hw : HW Z a0) : sl12 Z ≠ sl11 Z := slot_ne (a0 := a0) (Or.inr (w106 hw)) (Or.inr (w104 hw)) (by decide) (t := ft0_) (t' := ft5_) (by decide) (by decide)
theorem d245 : decode b13_ 64 = .ok (.aload_n 0, 1) := by decide +kernel
theorem d246 : decode b13_ 65 = .ok (.new 19, 3) := by decide +kernel
theorem d247 : decode b13_ 68 = .ok (.dup, 1) := by decide +kernel
theorem d248 : decode b13_ 69 = .ok (.invokespecial 21, 3) := by decide +kernel
theorem d249 : decode b13_ 72 = .ok (.putfield 48, 3) := by decide +kernel
def w107 (hw : HW Z a0) := ow 107 hw rfl
theorem sn_40 (hw : HW Z a0) : sl13 Z ≠ sl5 Z := slot_ne (a0 := a0) (Or.inr (w108 hw)) (Or.inl (w39 hw)) (by decide) (t := ft0_) (t' := .boolean) (by decide) (by decide)
theorem sn_41 (hw : HW Z a0) : sl13 Z ≠ sl6 Z := slot_ne (a0 := a0) (Or.inr (w108 hw)) (Or.inl (w41 hw)) (by decide) (t := ft0_) (t' := .boolean) (by decide) (by decide)
theorem sn_42 (hw : HW Z a0) : sl13 Z ≠ sl7 Z := slot_ne (a0 := a0) (Or.inr (w108 hw)) (Or.inl (w43 hw)) (by decide) (t := ft0_) (t' := .boolean) (by decide) (by decide)
theorem sn_43 (hw : HW Z a0) : sl13 Z ≠ sl8 Z := slot_ne (a0 := a0) (Or.inr (w108 hw)) (Or.inr (w69 hw)) (by decide) (t := ft0_) (t' := ft0_) (by decide) (by decide)
theorem sn_44 (hw : HW Z a0) : sl13 Z ≠ sl9 Z := slot_ne (a0 := a0) (Or.inr (w108 hw)) (Or.inl (w71 hw)) (by decide) (t := ft0_) (t' := .boolean) (by decide) (by decide)
theorem sn_45 (hw : HW Z a0) : sl13 Z ≠ sl10 Z := slot_ne (a0 := a0) (Or.inr (w108 hw)) (Or.inl (w76 hw)) (by decide) (t := ft0_) (t' := ft4_) (by decide) (by decide)
theorem sn_46 (hw : HW Z a0) : sl13 Z ≠ sl11 Z := slot_ne (a0 := a0) (Or.inr (w108 hw)) (Or.inr (w104 hw)) (by decide) (t := ft0_) (t' := ft5_) (by decide) (by decide)
theorem sn_47 (hw : HW Z a0) : sl13 Z ≠ sl12 Z := slot_ne (a0 := a0) (Or.inr (w108 hw)) (Or.inr (w106 hw)) (by decide) (t := ft0_) (t' := ft0_) (by decide) (by decide)
theorem d250 : decode b13_ 75 = .ok (.aload_n 0, 1) := by decide +kernel
theorem d251 : decode b13_ 76 = .ok (.aload_n 0, 1) := by decide +kernel
theorem d252 : decode b13_ 77 = .ok (.getfield 22, 3) := by decide +kernel
theorem sn_48 (hw : HW Z a0) : sl8 Z ≠ sl9 Z := slot_ne (a0 := a0) (Or.inr (w69 hw)) (Or.inl (w71 hw)) (by decide) (t := ft0_) (t' := .boolean) (by decide) (by decide)
theorem sn_49 (hw : HW Z a0) : sl8 Z ≠ sl10 Z := slot_ne (a0 := a0) (Or.inr (w69 hw)) (Or.inl (w76 hw)) (by decide) (t := ft0_) (t' := ft4_) (by decide) (by decide)
theorem sn_50 (hw : HW Z a0) : sl8 Z ≠ sl11 Z := slot_ne (a0 := a0) (Or.inr (w69 hw)) (Or.inr (w104 hw)) (by decide) (t := ft0_) (t' := ft5_) (by decide) (by decide)
theorem sn_51 (hw : HW Z a0) : sl8 Z ≠ sl12 Z := slot_ne (a0 := a0) (Or.inr (w69 hw)) (Or.inr (w106 hw)) (by decide) (t := ft0_) (t' := ft0_) (by decide) (by decide)
theorem sn_52 (hw : HW Z a0) : sl8 Z ≠ sl13 Z := slot_ne (a0 := a0) (Or.inr (w69 hw)) (Or.inr (w108 hw)) (by decide) (t := ft0_) (t' := ft0_) (by decide) (by decide)
theorem d253 : decode b13_ 80 = .ok (.invokestatic 51, 3) := by decide +kernel
def w109 (hw : HW Z a0) := ow 109 hw rfl
def w112 (hw : HW Z a0) := ow 112 hw rfl
def w111 (hw : HW Z a0) := ow 111 hw rfl
theorem pd_10 : parseMethodDescriptor "(Ljava/util/List;)Ljava/util/List;" = some ⟨[(.object "java/util/List")], some (.object "java/util/List")⟩ := by decide +kernel
def w110 (hw : HW Z a0) := ow 110 hw rfl
theorem d254 : decode b13_ 83 = .ok (.putfield 57, 3) := by decide +kernel
def w152 (hw : HW Z a0) := ow 152 hw rfl
theorem sn_53 (hw : HW Z a0) : sl14 Z ≠ sl5 Z := slot_ne (a0 := a0) (Or.inr (w153 hw)) (Or.inl (w39 hw)) (by decide) (t := ft0_) (t' := .boolean) (by decide) (by decide)
theorem sn_54 (hw : HW Z a0) : sl14 Z ≠ sl6 Z := slot_ne (a0 := a0) (Or.inr (w153 hw)) (Or.inl (w41 hw)) (by decide) (t := ft0_) (t' := .boolean) (by decide) (by decide)
theorem sn_55 (hw : HW Z a0) : sl14 Z ≠ sl7 Z := slot_ne (a0 := a0) (Or.inr (w153 hw)) (Or.inl (w43 hw)) (by decide) (t := ft0_) (t' := .boolean) (by decide) (by decide)
theorem sn_56 (hw : HW Z a0) : sl14 Z ≠ sl8 Z := slot_ne (a0 := a0) (Or.inr (w153 hw)) (Or.inr (w69 hw)) (by decide) (t := ft0_) (t' := ft0_) (by decide) (by decide)
theorem sn_57 (hw : HW Z a0) : sl14 Z ≠ sl9 Z := slot_ne (a0 := a0) (Or.inr (w153 hw)) (Or.inl (w71 hw)) (by decide) (t := ft0_) (t' := .boolean) (by decide) (by decide)
theorem sn_58 (hw : HW Z a0) : sl14 Z ≠ sl10 Z := slot_ne (a0 := a0) (Or.inr (w153 hw)) (Or.inl (w76 hw)) (by decide) (t := ft0_) (t' := ft4_) (by decide) (by decide)
theorem sn_59 (hw : HW Z a0) : sl14 Z ≠ sl11 Z := slot_ne (a0 := a0) (Or.inr (w153 hw)) (Or.inr (w104 hw)) (by decide) (t := ft0_) (t' := ft5_) (by decide) (by decide)
theorem sn_60 (hw : HW Z a0) : sl14 Z ≠ sl12 Z := slot_ne (a0 := a0) (Or.inr (w153 hw)) (Or.inr (w106 hw)) (by decide) (t := ft0_) (t' := ft0_) (by decide) (by decide)
theorem sn_61 (hw : HW Z a0) : sl14 Z ≠ sl13 Z := slot_ne (a0 := a0) (Or.inr (w153 hw)) (Or.inr (w108 hw)) (by decide) (t := ft0_) (t' := ft0_) (by decide) (by decide)
theorem d255 : decode b13_ 86 = .ok (.aload_n 0, 1) := by decide +kernel
theorem d256 : decode b13_ 87 = .ok (.aload_n 0, 1) := by decide +kernel
theorem d257 : decode b13_ 88 = .ok (.getfield 41, 3) := by decide +kernel
theorem sn_62 (hw : HW Z a0) : sl11 Z ≠ sl12 Z := slot_ne (a0 := a0) (Or.inr (w104 hw)) (Or.inr (w106 hw)) (by decide) (t := ft5_) (t' := ft0_) (by decide) (by decide)
theorem sn_63 (hw : HW Z a0) : sl11 Z ≠ sl13 Z := slot_ne (a0 := a0) (Or.inr (w104 hw)) (Or.inr (w108 hw)) (by decide) (t := ft5_) (t' := ft0_) (by decide) (by decide)
theorem sn_64 (hw : HW Z a0) : sl11 Z ≠ sl14 Z := slot_ne (a0 := a0) (Or.inr (w104 hw)) (Or.inr (w153 hw)) (by decide) (t := ft5_) (t' := ft0_) (by decide) (by decide)
theorem d258 : decode b13_ 91 = .ok (.invokestatic 60, 3) := by decide +kernel
def w154 (hw : HW Z a0) := ow 154 hw rfl
def w156 (hw : HW Z a0) := ow 156 hw rfl
theorem pd_11 : parseMethodDescriptor "(Ljava/util/Map;)Ljava/util/Map;" = some ⟨[(.object "java/util/Map")], some (.object "java/util/Map")⟩ := by decide +kernel
def w155 (hw : HW Z a0) := ow 155 hw rfl
theorem d259 : decode b13_ 94 = .ok (.putfield 64, 3) := by decide +kernel
def w173 (hw : HW Z a0) := ow 173 hw rfl
theorem sn_65 (hw : HW Z a0) : sl15 Z ≠ sl5 Z := slot_ne (a0 := a0) (Or.inr (w174 hw)) (Or.inl (w39 hw)) (by decide) (t := ft5_) (t' := .boolean) (by decide) (by decide)
theorem sn_66 (hw : HW Z a0) : sl15 Z ≠ sl6 Z := slot_ne (a0 := a0) (Or.inr (w174 hw)) (Or.inl (w41 hw)) (by decide) (t := ft5_) (t' := .boolean) (by decide) (by decide)
theorem sn_67 (hw : HW Z a0) : sl15 Z ≠ sl7 Z := slot_ne (a0 := a0) (Or.inr (w174 hw)) (Or.inl (w43 hw)) (by decide) (t := ft5_) (t' := .boolean) (by decide) (by decide)
theorem sn_68 (hw : HW Z a0) : sl15 Z ≠ sl8 Z := slot_ne (a0 := a0) (Or.inr (w174 hw)) (Or.inr (w69 hw)) (by decide) (t := ft5_) (t' := ft0_) (by decide) (by decide)
theorem sn_69 (hw : HW Z a0) : sl15 Z ≠ sl9 Z := slot_ne (a0 := a0) (Or.inr (w174 hw)) (Or.inl (w71 hw)) (by decide) (t := ft5_) (t' := .boolean) (by decide) (by decide)
theorem sn_70 (hw : HW Z a0) : sl15 Z ≠ sl10 Z := slot_ne (a0 := a0) (Or.inr (w174 hw)) (Or.inl (w76 hw)) (by decide) (t := ft5_) (t' := ft4_) (by decide) (by decide)
theorem sn_71 (hw : HW Z a0) : sl15 Z ≠ sl11 Z := slot_ne (a0 := a0) (Or.inr (w174 hw)) (Or.inr (w104 hw)) (by decide) (t := ft5_) (t' := ft5_) (by decide) (by decide)
theorem sn_72 (hw : HW Z a0) : sl15 Z ≠ sl12 Z := slot_ne (a0 := a0) (Or.inr (w174 hw)) (Or.inr (w106 hw)) (by decide) (t := ft5_) (t' := ft0_) (by decide) (by decide)
theorem sn_73 (hw : HW Z a0) : sl15 Z ≠ sl13 Z := slot_ne (a0 := a0) (Or.inr (w174 hw)) (Or.inr (w108 hw)) (by decide) (t := ft5_) (t' := ft0_) (by decide) (by decide)
theorem sn_74 (hw : HW Z a0) : sl15 Z ≠ sl14 Z := slot_ne (a0 := a0) (Or.inr (w174 hw)) (Or.inr (w153 hw)) (by decide) (t := ft5_) (t' := ft0_) (by decide) (by decide)
theorem d260 : decode b13_ 97 = .ok (.aload_n 0, 1) := by decide +kernel
theorem d261 : decode b13_ 98 = .ok (.aload_n 0, 1) := by decide +kernel
theorem d262 : decode b13_ 99 = .ok (.getfield 45, 3) := by decide +kernel
theorem sn_75 (hw : HW Z a0) : sl12 Z ≠ sl13 Z := slot_ne (a0 := a0) (Or.inr (w106 hw)) (Or.inr (w108 hw)) (by decide) (t := ft0_) (t' := ft0_) (by decide) (by decide)
theorem sn_76 (hw : HW Z a0) : sl12 Z ≠ sl14 Z := slot_ne (a0 := a0) (Or.inr (w106 hw)) (Or.inr (w153 hw)) (by decide) (t := ft0_) (t' := ft0_) (by decide) (by decide)
theorem sn_77 (hw : HW Z a0) : sl12 Z ≠ sl15 Z := slot_ne (a0 := a0) (Or.inr (w106 hw)) (Or.inr (w174 hw)) (by decide) (t := ft0_) (t' := ft5_) (by decide) (by decide)
theorem d263 : decode b13_ 102 = .ok (.invokestatic 51, 3) := by decide +kernel
theorem d264 : decode b13_ 105 = .ok (.putfield 67, 3) := by decide +kernel
def w175 (hw : HW Z a0) := ow 175 hw rfl
theorem sn_78 (hw : HW Z a0) : sl16 Z ≠ sl5 Z := slot_ne (a0 := a0) (Or.inr (w176 hw)) (Or.inl (w39 hw)) (by decide) (t := ft0_) (t' := .boolean) (by decide) (by decide)
theorem sn_79 (hw : HW Z a0) : sl16 Z ≠ sl6 Z := slot_ne (a0 := a0) (Or.inr (w176 hw)) (Or.inl (w41 hw)) (by decide) (t := ft0_) (t' := .boolean) (by decide) (by decide)
theorem sn_80 (hw : HW Z a0) : sl16 Z ≠ sl7 Z := slot_ne (a0 := a0) (Or.inr (w176 hw)) (Or.inl (w43 hw)) (by decide) (t := ft0_) (t' := .boolean) (by decide) (by decide)
theorem sn_81 (hw : HW Z a0) : sl16 Z ≠ sl8 Z := slot_ne (a0 := a0) (Or.inr (w176 hw)) (Or.inr (w69 hw)) (by decide) (t := ft0_) (t' := ft0_) (by decide) (by decide)
theorem sn_82 (hw : HW Z a0) : sl16 Z ≠ sl9 Z := slot_ne (a0 := a0) (Or.inr (w176 hw)) (Or.inl (w71 hw)) (by decide) (t := ft0_) (t' := .boolean) (by decide) (by decide)
theorem sn_83 (hw : HW Z a0) : sl16 Z ≠ sl10 Z := slot_ne (a0 := a0) (Or.inr (w176 hw)) (Or.inl (w76 hw)) (by decide) (t := ft0_) (t' := ft4_) (by decide) (by decide)
theorem sn_84 (hw : HW Z a0) : sl16 Z ≠ sl11 Z := slot_ne (a0 := a0) (Or.inr (w176 hw)) (Or.inr (w104 hw)) (by decide) (t := ft0_) (t' := ft5_) (by decide) (by decide)
theorem sn_85 (hw : HW Z a0) : sl16 Z ≠ sl12 Z := slot_ne (a0 := a0) (Or.inr (w176 hw)) (Or.inr (w106 hw)) (by decide) (t := ft0_) (t' := ft0_) (by decide) (by decide)
theorem sn_86 (hw : HW Z a0) : sl16 Z ≠ sl13 Z := slot_ne (a0 := a0) (Or.inr (w176 hw)) (Or.inr (w108 hw)) (by decide) (t := ft0_) (t' := ft0_) (by decide) (by decide)
theorem sn_87 (hw : HW Z a0) : sl16 Z ≠ sl14 Z := slot_ne (a0 := a0) (Or.inr (w176 hw)) (Or.inr (w153 hw)) (by decide) (t := ft0_) (t' := ft0_) (by decide) (by decide)
theorem sn_88 (hw : HW Z a0) : sl16 Z ≠ sl15 Z := slot_ne (a0 := a0) (Or.inr (w176 hw)) (Or.inr (w174 hw)) (by decide) (t := ft0_) (t' := ft5_) (by decide) (by decide)
theorem d265 : decode b13_ 108 = .ok (.aload_n 0, 1) := by decide +kernel
theorem d266 : decode b13_ 109 = .ok (.aload_n 0, 1) := by decide +kernel
theorem d267 : decode b13_ 110 = .ok (.getfield 48, 3) := by decide +kernel
theorem sn_89 (hw : HW Z a0) : sl13 Z ≠ sl14 Z := slot_ne (a0 := a0) (Or.inr (w108 hw)) (Or.inr (w153 hw)) (by decide) (t := ft0_) (t' := ft0_) (by decide) (by decide)
theorem sn_90 (hw : HW Z a0) : sl13 Z ≠ sl15 Z := slot_ne (a0 := a0) (Or.inr (w108 hw)) (Or.inr (w174 hw)) (by decide) (t := ft0_) (t' := ft5_) (by decide) (by decide)
theorem sn_91 (hw : HW Z a0) : sl13 Z ≠ sl16 Z := slot_ne (a0 := a0) (Or.inr (w108 hw)) (Or.inr (w176 hw)) (by decide) (t := ft0_) (t' := ft0_) (by decide) (by decide)
theorem d268 : decode b13_ 113 = .ok (.invokestatic 51, 3) := by decide +kernel
theorem d269 : decode b13_ 116 = .ok (.putfield 70, 3) := by decide +kernel
def w177 (hw : HW Z a0) := ow 177 hw rfl
theorem sn_92 (hw : HW Z a0) : sl17 Z ≠ sl5 Z := slot_ne (a0 := a0) (Or.inr (w178 hw)) (Or.inl (w39 hw)) (by decide) (t := ft0_) (t' := .boolean) (by decide) (by decide)
theorem sn_93 (hw : HW Z a0) : sl17 Z ≠ sl6 Z := slot_ne (a0 := a0) (Or.inr (w178 hw)) (Or.inl (w41 hw)) (by decide) (t := ft0_) (t' := .boolean) (by decide) (by decide)
theorem sn_94 (hw : HW Z a0) : sl17 Z ≠ sl7 Z := slot_ne (a0 := a0) (Or.inr (w178 hw)) (Or.inl (w43 hw)) (by decide) (t := ft0_) (t' := .boolean) (by decide) (by decide)
theorem sn_95 (hw : HW Z a0) : sl17 Z ≠ sl8 Z := slot_ne (a0 := a0) (Or.inr (w178 hw)) (Or.inr (w69 hw)) (by decide) (t := ft0_) (t' := ft0_) (by decide) (by decide)
theorem sn_96 (hw : HW Z a0) : sl17 Z ≠ sl9 Z := slot_ne (a0 := a0) (Or.inr (w178 hw)) (Or.inl (w71 hw)) (by decide) (t := ft0_) (t' := .boolean) (by decide) (by decide)
theorem sn_97 (hw : HW Z a0) : sl17 Z ≠ sl10 Z := slot_ne (a0 := a0) (Or.inr (w178 hw)) (Or.inl (w76 hw)) (by decide) (t := ft0_) (t' := ft4_) (by decide) (by decide)
theorem sn_98 (hw : HW Z a0) : sl17 Z ≠ sl11 Z := slot_ne (a0 := a0) (Or.inr (w178 hw)) (Or.inr (w104 hw)) (by decide) (t := ft0_) (t' := ft5_) (by decide) (by decide)
theorem sn_99 (hw : HW Z a0) : sl17 Z ≠ sl12 Z := slot_ne (a0 := a0) (Or.inr (w178 hw)) (Or.inr (w106 hw)) (by decide) (t := ft0_) (t' := ft0_) (by decide) (by decide)
theorem sn_100 (hw : HW Z a0) : sl17 Z ≠ sl13 Z := slot_ne (a0 := a0) (Or.inr (w178 hw)) (Or.inr (w108 hw)) (by decide) (t := ft0_) (t' := ft0_) (by decide) (by decide)
theorem sn_101 (hw : HW Z a0) : sl17 Z ≠ sl14 Z := slot_ne (a0 := a0) (Or.inr (w178 hw)) (Or.inr (w153 hw)) (by decide) (t := ft0_) (t' := ft0_) (by decide) (by decide)
theorem sn_102 (hw : HW Z a0) : sl17 Z ≠ sl15 Z := slot_ne (a0 := a0) (Or.inr (w178 hw)) (Or.inr (w174 hw)) (by decide) (t := ft0_) (t' := ft5_) (by decide) (by decide)
theorem sn_103 (hw : HW Z a0) : sl17 Z ≠ sl16 Z := slot_ne (a0 := a0) (Or.inr (w178 hw)) (Or.inr (w176 hw)) (by decide) (t := ft0_) (t' := ft0_) (by decide) (by decide)
theorem d270 : decode b13_ 119 = .ok (.aload_n 0, 1) := by decide +kernel
theorem d271 : decode b13_ 120 = .ok (.invokestatic 73, 3) := by decide +kernel
def w179 (hw : HW Z a0) := ow 179 hw rfl
abbrev b20_ := jdk_40_method_36_code
theorem d272 : decode b20_ 0 = .ok (.getstatic 90, 3) := by decide +kernel
def w183 (hw : HW Z a0) := ow 183 hw rfl
theorem d273 : decode b20_ 3 = .ok (.areturn, 1) := by decide +kernel
theorem ef_7 (m : MethodId) : entryFrame m #[] 0 = mkF m 0 #[] [] := by first | (simp [entryFrame, mkF, argsToLocals, Value.category]; done) | rfl
theorem pn_List373 : plainName "java/util/List" = true := by first | (simp [plainName, overriddenIn]; done) | decide +kernel
abbrev y19_of : MethodName := ⟨"java/util/List", "of", "()Ljava/util/List;"⟩
def Q_r19_of (Z : State) (o_1 : Addr) (h0 : Heap) (n0 : Nat) (v : Option Value) (h : Heap) (L : List Loc) : Prop := v = some (.ref o_1) ∧ Fr n0 L ∧ h = h0
theorem r19_of (l : Launch) (Z : State) (a0 : Array Value) (hw : HW Z a0) (ws : List Jvm.Cond) (o_1 : Addr) (h0 : Heap) (n0 : Nat) (Z0 : n0 ≤ h0.size) (S_EMPTY_LIST : Sa1 Z (.ref o_1)) (O0 : Old Z n0 h0) :
    MF l Z y19_of b20_ 0 (some (.object "java/util/List")) ws ⟨0, 0, 0, 0⟩ #[] h0 (Q_r19_of Z o_1 h0 n0) := by
 refine own_body (plainFor_of_name pn_List373) (ef_7) (by decide) (by decide) ?_
 intro p e s m below meth c s₁ hx hby hml hown hnm hret hZ hh e0 X0
 have N0 := Fr.nil n0
 obtain ⟨T2, X2, e2, st2⟩ := getS2 X0 hx hZ hown (host := "") (Or.inl (w183 hw)) Via.refl e0 (Sta.ext O0.2 S_EMPTY_LIST) (g := (mkF m 0 #[] [])) rfl (hb hby d272)
 refine ⟨T2, _, some (.ref o_1), X2, (fun h => by cases h <;> rfl), ?_, fun fs hr => ?_⟩
 · show Q_r19_of Z o_1 h0 n0 _ T2.heap _
   rw [e2]
   exact ⟨rfl, N0, rfl⟩
 refine st2 _ ?_
 jvm_step X2.here [X2.here.top, hx, (hb hby d273), X2.method', hret, Value.isRef, FieldType.isReference]
 first | (intro acts; rw [hr _ acts rfl rfl rfl]) | rw [hr _ _ rfl rfl rfl]
 exact Steps.refl _
def w182 (hw : HW Z a0) := ow 182 hw rfl
def w181 (hw : HW Z a0) := ow 181 hw rfl
theorem pd_12 : parseMethodDescriptor "()Ljava/util/List;" = some ⟨[], some (.object "java/util/List")⟩ := by decide +kernel
def w180 (hw : HW Z a0) := ow 180 hw rfl
theorem d274 : decode b13_ 123 = .ok (.putfield 79, 3) := by decide +kernel
def w185 (hw : HW Z a0) := ow 185 hw rfl
theorem sn_104 (hw : HW Z a0) : sl18 Z ≠ sl5 Z := slot_ne (a0 := a0) (Or.inl (w186 hw)) (Or.inl (w39 hw)) (by decide) (t := ft0_) (t' := .boolean) (by decide) (by decide)
theorem sn_105 (hw : HW Z a0) : sl18 Z ≠ sl6 Z := slot_ne (a0 := a0) (Or.inl (w186 hw)) (Or.inl (w41 hw)) (by decide) (t := ft0_) (t' := .boolean) (by decide) (by decide)
theorem sn_106 (hw : HW Z a0) : sl18 Z ≠ sl7 Z := slot_ne (a0 := a0) (Or.inl (w186 hw)) (Or.inl (w43 hw)) (by decide) (t := ft0_) (t' := .boolean) (by decide) (by decide)
theorem sn_107 (hw : HW Z a0) : sl18 Z ≠ sl8 Z := slot_ne (a0 := a0) (Or.inl (w186 hw)) (Or.inr (w69 hw)) (by decide) (t := ft0_) (t' := ft0_) (by decide) (by decide)
theorem sn_108 (hw : HW Z a0) : sl18 Z ≠ sl9 Z := slot_ne (a0 := a0) (Or.inl (w186 hw)) (Or.inl (w71 hw)) (by decide) (t := ft0_) (t' := .boolean) (by decide) (by decide)
theorem sn_109 (hw : HW Z a0) : sl18 Z ≠ sl10 Z := slot_ne (a0 := a0) (Or.inl (w186 hw)) (Or.inl (w76 hw)) (by decide) (t := ft0_) (t' := ft4_) (by decide) (by decide)
theorem sn_110 (hw : HW Z a0) : sl18 Z ≠ sl11 Z := slot_ne (a0 := a0) (Or.inl (w186 hw)) (Or.inr (w104 hw)) (by decide) (t := ft0_) (t' := ft5_) (by decide) (by decide)
theorem sn_111 (hw : HW Z a0) : sl18 Z ≠ sl12 Z := slot_ne (a0 := a0) (Or.inl (w186 hw)) (Or.inr (w106 hw)) (by decide) (t := ft0_) (t' := ft0_) (by decide) (by decide)
theorem sn_112 (hw : HW Z a0) : sl18 Z ≠ sl13 Z := slot_ne (a0 := a0) (Or.inl (w186 hw)) (Or.inr (w108 hw)) (by decide) (t := ft0_) (t' := ft0_) (by decide) (by decide)
theorem sn_113 (hw : HW Z a0) : sl18 Z ≠ sl14 Z := slot_ne (a0 := a0) (Or.inl (w186 hw)) (Or.inr (w153 hw)) (by decide) (t := ft0_) (t' := ft0_) (by decide) (by decide)
theorem sn_114 (hw : HW Z a0) : sl18 Z ≠ sl15 Z := slot_ne (a0 := a0) (Or.inl (w186 hw)) (Or.inr (w174 hw)) (by decide) (t := ft0_) (t' := ft5_) (by decide) (by decide)
theorem sn_115 (hw : HW Z a0) : sl18 Z ≠ sl16 Z := slot_ne (a0 := a0) (Or.inl (w186 hw)) (Or.inr (w176 hw)) (by decide) (t := ft0_) (t' := ft0_) (by decide) (by decide)
theorem sn_116 (hw : HW Z a0) : sl18 Z ≠ sl17 Z := slot_ne (a0 := a0) (Or.inl (w186 hw)) (Or.inr (w178 hw)) (by decide) (t := ft0_) (t' := ft0_) (by decide) (by decide)
theorem d275 : decode b13_ 126 = .ok (.aload_n 0, 1) := by decide +kernel
theorem d276 : decode b13_ 127 = .ok (.invokestatic 73, 3) := by decide +kernel
theorem d277 : decode b13_ 130 = .ok (.putfield 82, 3) := by decide +kernel
def w187 (hw : HW Z a0) := ow 187 hw rfl
theorem sn_117 (hw : HW Z a0) : sl19 Z ≠ sl5 Z := slot_ne (a0 := a0) (Or.inl (w188 hw)) (Or.inl (w39 hw)) (by decide) (t := ft0_) (t' := .boolean) (by decide) (by decide)
theorem sn_118 (hw : HW Z a0) : sl19 Z ≠ sl6 Z := slot_ne (a0 := a0) (Or.inl (w188 hw)) (Or.inl (w41 hw)) (by decide) (t := ft0_) (t' := .boolean) (by decide) (by decide)
theorem sn_119 (hw : HW Z a0) : sl19 Z ≠ sl7 Z := slot_ne (a0 := a0) (Or.inl (w188 hw)) (Or.inl (w43 hw)) (by decide) (t := ft0_) (t' := .boolean) (by decide) (by decide)
theorem sn_120 (hw : HW Z a0) : sl19 Z ≠ sl8 Z := slot_ne (a0 := a0) (Or.inl (w188 hw)) (Or.inr (w69 hw)) (by decide) (t := ft0_) (t' := ft0_) (by decide) (by decide)
theorem sn_121 (hw : HW Z a0) : sl19 Z ≠ sl9 Z := slot_ne (a0 := a0) (Or.inl (w188 hw)) (Or.inl (w71 hw)) (by decide) (t := ft0_) (t' := .boolean) (by decide) (by decide)
theorem sn_122 (hw : HW Z a0) : sl19 Z ≠ sl10 Z := slot_ne (a0 := a0) (Or.inl (w188 hw)) (Or.inl (w76 hw)) (by decide) (t := ft0_) (t' := ft4_) (by decide) (by decide)
theorem sn_123 (hw : HW Z a0) : sl19 Z ≠ sl11 Z := slot_ne (a0 := a0) (Or.inl (w188 hw)) (Or.inr (w104 hw)) (by decide) (t := ft0_) (t' := ft5_) (by decide) (by decide)
theorem sn_124 (hw : HW Z a0) : sl19 Z ≠ sl12 Z := slot_ne (a0 := a0) (Or.inl (w188 hw)) (Or.inr (w106 hw)) (by decide) (t := ft0_) (t' := ft0_) (by decide) (by decide)
theorem sn_125 (hw : HW Z a0) : sl19 Z ≠ sl13 Z := slot_ne (a0 := a0) (Or.inl (w188 hw)) (Or.inr (w108 hw)) (by decide) (t := ft0_) (t' := ft0_) (by decide) (by decide)
theorem sn_126 (hw : HW Z a0) : sl19 Z ≠ sl14 Z := slot_ne (a0 := a0) (Or.inl (w188 hw)) (Or.inr (w153 hw)) (by decide) (t := ft0_) (t' := ft0_) (by decide) (by decide)
theorem sn_127 (hw : HW Z a0) : sl19 Z ≠ sl15 Z := slot_ne (a0 := a0) (Or.inl (w188 hw)) (Or.inr (w174 hw)) (by decide) (t := ft0_) (t' := ft5_) (by decide) (by decide)
theorem sn_128 (hw : HW Z a0) : sl19 Z ≠ sl16 Z := slot_ne (a0 := a0) (Or.inl (w188 hw)) (Or.inr (w176 hw)) (by decide) (t := ft0_) (t' := ft0_) (by decide) (by decide)
theorem sn_129 (hw : HW Z a0) : sl19 Z ≠ sl17 Z := slot_ne (a0 := a0) (Or.inl (w188 hw)) (Or.inr (w178 hw)) (by decide) (t := ft0_) (t' := ft0_) (by decide) (by decide)
theorem sn_130 (hw : HW Z a0) : sl19 Z ≠ sl18 Z := slot_ne (a0 := a0) (Or.inl (w188 hw)) (Or.inl (w186 hw)) (by decide) (t := ft0_) (t' := ft0_) (by decide) (by decide)
theorem d278 : decode b13_ 133 = .ok (.return_, 1) := by decide +kernel
theorem sn_131 (hw : HW Z a0) : sl5 Z ≠ sl6 Z := slot_ne (a0 := a0) (Or.inl (w39 hw)) (Or.inl (w41 hw)) (by decide) (t := .boolean) (t' := .boolean) (by decide) (by decide)
theorem sn_132 (hw : HW Z a0) : sl5 Z ≠ sl7 Z := slot_ne (a0 := a0) (Or.inl (w39 hw)) (Or.inl (w43 hw)) (by decide) (t := .boolean) (t' := .boolean) (by decide) (by decide)
theorem sn_133 (hw : HW Z a0) : sl5 Z ≠ sl8 Z := slot_ne (a0 := a0) (Or.inl (w39 hw)) (Or.inr (w69 hw)) (by decide) (t := .boolean) (t' := ft0_) (by decide) (by decide)
theorem sn_134 (hw : HW Z a0) : sl5 Z ≠ sl9 Z := slot_ne (a0 := a0) (Or.inl (w39 hw)) (Or.inl (w71 hw)) (by decide) (t := .boolean) (t' := .boolean) (by decide) (by decide)
theorem sn_135 (hw : HW Z a0) : sl5 Z ≠ sl10 Z := slot_ne (a0 := a0) (Or.inl (w39 hw)) (Or.inl (w76 hw)) (by decide) (t := .boolean) (t' := ft4_) (by decide) (by decide)
theorem sn_136 (hw : HW Z a0) : sl5 Z ≠ sl11 Z := slot_ne (a0 := a0) (Or.inl (w39 hw)) (Or.inr (w104 hw)) (by decide) (t := .boolean) (t' := ft5_) (by decide) (by decide)
theorem sn_137 (hw : HW Z a0) : sl5 Z ≠ sl12 Z := slot_ne (a0 := a0) (Or.inl (w39 hw)) (Or.inr (w106 hw)) (by decide) (t := .boolean) (t' := ft0_) (by decide) (by decide)
theorem sn_138 (hw : HW Z a0) : sl5 Z ≠ sl13 Z := slot_ne (a0 := a0) (Or.inl (w39 hw)) (Or.inr (w108 hw)) (by decide) (t := .boolean) (t' := ft0_) (by decide) (by decide)
theorem sn_139 (hw : HW Z a0) : sl5 Z ≠ sl14 Z := slot_ne (a0 := a0) (Or.inl (w39 hw)) (Or.inr (w153 hw)) (by decide) (t := .boolean) (t' := ft0_) (by decide) (by decide)
theorem sn_140 (hw : HW Z a0) : sl5 Z ≠ sl15 Z := slot_ne (a0 := a0) (Or.inl (w39 hw)) (Or.inr (w174 hw)) (by decide) (t := .boolean) (t' := ft5_) (by decide) (by decide)
theorem sn_141 (hw : HW Z a0) : sl5 Z ≠ sl16 Z := slot_ne (a0 := a0) (Or.inl (w39 hw)) (Or.inr (w176 hw)) (by decide) (t := .boolean) (t' := ft0_) (by decide) (by decide)
theorem sn_142 (hw : HW Z a0) : sl5 Z ≠ sl17 Z := slot_ne (a0 := a0) (Or.inl (w39 hw)) (Or.inr (w178 hw)) (by decide) (t := .boolean) (t' := ft0_) (by decide) (by decide)
theorem sn_143 (hw : HW Z a0) : sl5 Z ≠ sl18 Z := slot_ne (a0 := a0) (Or.inl (w39 hw)) (Or.inl (w186 hw)) (by decide) (t := .boolean) (t' := ft0_) (by decide) (by decide)
theorem sn_144 (hw : HW Z a0) : sl5 Z ≠ sl19 Z := slot_ne (a0 := a0) (Or.inl (w39 hw)) (Or.inl (w188 hw)) (by decide) (t := .boolean) (t' := ft0_) (by decide) (by decide)
theorem sn_145 (hw : HW Z a0) : sl6 Z ≠ sl7 Z := slot_ne (a0 := a0) (Or.inl (w41 hw)) (Or.inl (w43 hw)) (by decide) (t := .boolean) (t' := .boolean) (by decide) (by decide)
theorem sn_146 (hw : HW Z a0) : sl6 Z ≠ sl8 Z := slot_ne (a0 := a0) (Or.inl (w41 hw)) (Or.inr (w69 hw)) (by decide) (t := .boolean) (t' := ft0_) (by decide) (by decide)
theorem sn_147 (hw : HW Z a0) : sl6 Z ≠ sl9 Z := slot_ne (a0 := a0) (Or.inl (w41 hw)) (Or.inl (w71 hw)) (by decide) (t := .boolean) (t' := .boolean) (by decide) (by decide)
theorem sn_148 (hw : HW Z a0) : sl6 Z ≠ sl10 Z := slot_ne (a0 := a0) (Or.inl (w41 hw)) (Or.inl (w76 hw)) (by decide) (t := .boolean) (t' := ft4_) (by decide) (by decide)
theorem sn_149 (hw : HW Z a0) : sl6 Z ≠ sl11 Z := slot_ne (a0 := a0) (Or.inl (w41 hw)) (Or.inr (w104 hw)) (by decide) (t := .boolean) (t' := ft5_) (by decide) (by decide)
theorem sn_150 (hw : HW Z a0) : sl6 Z ≠ sl12 Z := slot_ne (a0 := a0) (Or.inl (w41 hw)) (Or.inr (w106 hw)) (by decide) (t := .boolean) (t' := ft0_) (by decide) (by decide)
theorem sn_151 (hw : HW Z a0) : sl6 Z ≠ sl13 Z := slot_ne (a0 := a0) (Or.inl (w41 hw)) (Or.inr (w108 hw)) (by decide) (t := .boolean) (t' := ft0_) (by decide) (by decide)
theorem sn_152 (hw : HW Z a0) : sl6 Z ≠ sl14 Z := slot_ne (a0 := a0) (Or.inl (w41 hw)) (Or.inr (w153 hw)) (by decide) (t := .boolean) (t' := ft0_) (by decide) (by decide)
theorem sn_153 (hw : HW Z a0) : sl6 Z ≠ sl15 Z := slot_ne (a0 := a0) (Or.inl (w41 hw)) (Or.inr (w174 hw)) (by decide) (t := .boolean) (t' := ft5_) (by decide) (by decide)
theorem sn_154 (hw : HW Z a0) : sl6 Z ≠ sl16 Z := slot_ne (a0 := a0) (Or.inl (w41 hw)) (Or.inr (w176 hw)) (by decide) (t := .boolean) (t' := ft0_) (by decide) (by decide)
theorem sn_155 (hw : HW Z a0) : sl6 Z ≠ sl17 Z := slot_ne (a0 := a0) (Or.inl (w41 hw)) (Or.inr (w178 hw)) (by decide) (t := .boolean) (t' := ft0_) (by decide) (by decide)
theorem sn_156 (hw : HW Z a0) : sl6 Z ≠ sl18 Z := slot_ne (a0 := a0) (Or.inl (w41 hw)) (Or.inl (w186 hw)) (by decide) (t := .boolean) (t' := ft0_) (by decide) (by decide)
theorem sn_157 (hw : HW Z a0) : sl6 Z ≠ sl19 Z := slot_ne (a0 := a0) (Or.inl (w41 hw)) (Or.inl (w188 hw)) (by decide) (t := .boolean) (t' := ft0_) (by decide) (by decide)
theorem sn_158 (hw : HW Z a0) : sl7 Z ≠ sl8 Z := slot_ne (a0 := a0) (Or.inl (w43 hw)) (Or.inr (w69 hw)) (by decide) (t := .boolean) (t' := ft0_) (by decide) (by decide)
theorem sn_159 (hw : HW Z a0) : sl7 Z ≠ sl9 Z := slot_ne (a0 := a0) (Or.inl (w43 hw)) (Or.inl (w71 hw)) (by decide) (t := .boolean) (t' := .boolean) (by decide) (by decide)
theorem sn_160 (hw : HW Z a0) : sl7 Z ≠ sl10 Z := slot_ne (a0 := a0) (Or.inl (w43 hw)) (Or.inl (w76 hw)) (by decide) (t := .boolean) (t' := ft4_) (by decide) (by decide)
theorem sn_161 (hw : HW Z a0) : sl7 Z ≠ sl11 Z := slot_ne (a0 := a0) (Or.inl (w43 hw)) (Or.inr (w104 hw)) (by decide) (t := .boolean) (t' := ft5_) (by decide) (by decide)
theorem sn_162 (hw : HW Z a0) : sl7 Z ≠ sl12 Z := slot_ne (a0 := a0) (Or.inl (w43 hw)) (Or.inr (w106 hw)) (by decide) (t := .boolean) (t' := ft0_) (by decide) (by decide)
theorem sn_163 (hw : HW Z a0) : sl7 Z ≠ sl13 Z := slot_ne (a0 := a0) (Or.inl (w43 hw)) (Or.inr (w108 hw)) (by decide) (t := .boolean) (t' := ft0_) (by decide) (by decide)
theorem sn_164 (hw : HW Z a0) : sl7 Z ≠ sl14 Z := slot_ne (a0 := a0) (Or.inl (w43 hw)) (Or.inr (w153 hw)) (by decide) (t := .boolean) (t' := ft0_) (by decide) (by decide)
theorem sn_165 (hw : HW Z a0) : sl7 Z ≠ sl15 Z := slot_ne (a0 := a0) (Or.inl (w43 hw)) (Or.inr (w174 hw)) (by decide) (t := .boolean) (t' := ft5_) (by decide) (by decide)
theorem sn_166 (hw : HW Z a0) : sl7 Z ≠ sl16 Z := slot_ne (a0 := a0) (Or.inl (w43 hw)) (Or.inr (w176 hw)) (by decide) (t := .boolean) (t' := ft0_) (by decide) (by decide)
theorem sn_167 (hw : HW Z a0) : sl7 Z ≠ sl17 Z := slot_ne (a0 := a0) (Or.inl (w43 hw)) (Or.inr (w178 hw)) (by decide) (t := .boolean) (t' := ft0_) (by decide) (by decide)
theorem sn_168 (hw : HW Z a0) : sl7 Z ≠ sl18 Z := slot_ne (a0 := a0) (Or.inl (w43 hw)) (Or.inl (w186 hw)) (by decide) (t := .boolean) (t' := ft0_) (by decide) (by decide)
theorem sn_169 (hw : HW Z a0) : sl7 Z ≠ sl19 Z := slot_ne (a0 := a0) (Or.inl (w43 hw)) (Or.inl (w188 hw)) (by decide) (t := .boolean) (t' := ft0_) (by decide) (by decide)
theorem sn_170 (hw : HW Z a0) : sl8 Z ≠ sl14 Z := slot_ne (a0 := a0) (Or.inr (w69 hw)) (Or.inr (w153 hw)) (by decide) (t := ft0_) (t' := ft0_) (by decide) (by decide)
theorem sn_171 (hw : HW Z a0) : sl8 Z ≠ sl15 Z := slot_ne (a0 := a0) (Or.inr (w69 hw)) (Or.inr (w174 hw)) (by decide) (t := ft0_) (t' := ft5_) (by decide) (by decide)
theorem sn_172 (hw : HW Z a0) : sl8 Z ≠ sl16 Z := slot_ne (a0 := a0) (Or.inr (w69 hw)) (Or.inr (w176 hw)) (by decide) (t := ft0_) (t' := ft0_) (by decide) (by decide)
theorem sn_173 (hw : HW Z a0) : sl8 Z ≠ sl17 Z := slot_ne (a0 := a0) (Or.inr (w69 hw)) (Or.inr (w178 hw)) (by decide) (t := ft0_) (t' := ft0_) (by decide) (by decide)
theorem sn_174 (hw : HW Z a0) : sl8 Z ≠ sl18 Z := slot_ne (a0 := a0) (Or.inr (w69 hw)) (Or.inl (w186 hw)) (by decide) (t := ft0_) (t' := ft0_) (by decide) (by decide)
theorem sn_175 (hw : HW Z a0) : sl8 Z ≠ sl19 Z := slot_ne (a0 := a0) (Or.inr (w69 hw)) (Or.inl (w188 hw)) (by decide) (t := ft0_) (t' := ft0_) (by decide) (by decide)
theorem sn_176 (hw : HW Z a0) : sl9 Z ≠ sl10 Z := slot_ne (a0 := a0) (Or.inl (w71 hw)) (Or.inl (w76 hw)) (by decide) (t := .boolean) (t' := ft4_) (by decide) (by decide)
theorem sn_177 (hw : HW Z a0) : sl9 Z ≠ sl11 Z := slot_ne (a0 := a0) (Or.inl (w71 hw)) (Or.inr (w104 hw)) (by decide) (t := .boolean) (t' := ft5_) (by decide) (by decide)
theorem sn_178 (hw : HW Z a0) : sl9 Z ≠ sl12 Z := slot_ne (a0 := a0) (Or.inl (w71 hw)) (Or.inr (w106 hw)) (by decide) (t := .boolean) (t' := ft0_) (by decide) (by decide)
theorem sn_179 (hw : HW Z a0) : sl9 Z ≠ sl13 Z := slot_ne (a0 := a0) (Or.inl (w71 hw)) (Or.inr (w108 hw)) (by decide) (t := .boolean) (t' := ft0_) (by decide) (by decide)
theorem sn_180 (hw : HW Z a0) : sl9 Z ≠ sl14 Z := slot_ne (a0 := a0) (Or.inl (w71 hw)) (Or.inr (w153 hw)) (by decide) (t := .boolean) (t' := ft0_) (by decide) (by decide)
theorem sn_181 (hw : HW Z a0) : sl9 Z ≠ sl15 Z := slot_ne (a0 := a0) (Or.inl (w71 hw)) (Or.inr (w174 hw)) (by decide) (t := .boolean) (t' := ft5_) (by decide) (by decide)
theorem sn_182 (hw : HW Z a0) : sl9 Z ≠ sl16 Z := slot_ne (a0 := a0) (Or.inl (w71 hw)) (Or.inr (w176 hw)) (by decide) (t := .boolean) (t' := ft0_) (by decide) (by decide)
theorem sn_183 (hw : HW Z a0) : sl9 Z ≠ sl17 Z := slot_ne (a0 := a0) (Or.inl (w71 hw)) (Or.inr (w178 hw)) (by decide) (t := .boolean) (t' := ft0_) (by decide) (by decide)
theorem sn_184 (hw : HW Z a0) : sl9 Z ≠ sl18 Z := slot_ne (a0 := a0) (Or.inl (w71 hw)) (Or.inl (w186 hw)) (by decide) (t := .boolean) (t' := ft0_) (by decide) (by decide)
theorem sn_185 (hw : HW Z a0) : sl9 Z ≠ sl19 Z := slot_ne (a0 := a0) (Or.inl (w71 hw)) (Or.inl (w188 hw)) (by decide) (t := .boolean) (t' := ft0_) (by decide) (by decide)
theorem sn_186 (hw : HW Z a0) : sl10 Z ≠ sl11 Z := slot_ne (a0 := a0) (Or.inl (w76 hw)) (Or.inr (w104 hw)) (by decide) (t := ft4_) (t' := ft5_) (by decide) (by decide)
theorem sn_187 (hw : HW Z a0) : sl10 Z ≠ sl12 Z := slot_ne (a0 := a0) (Or.inl (w76 hw)) (Or.inr (w106 hw)) (by decide) (t := ft4_) (t' := ft0_) (by decide) (by decide)
theorem sn_188 (hw : HW Z a0) : sl10 Z ≠ sl13 Z := slot_ne (a0 := a0) (Or.inl (w76 hw)) (Or.inr (w108 hw)) (by decide) (t := ft4_) (t' := ft0_) (by decide) (by decide)
theorem sn_189 (hw : HW Z a0) : sl10 Z ≠ sl14 Z := slot_ne (a0 := a0) (Or.inl (w76 hw)) (Or.inr (w153 hw)) (by decide) (t := ft4_) (t' := ft0_) (by decide) (by decide)
theorem sn_190 (hw : HW Z a0) : sl10 Z ≠ sl15 Z := slot_ne (a0 := a0) (Or.inl (w76 hw)) (Or.inr (w174 hw)) (by decide) (t := ft4_) (t' := ft5_) (by decide) (by decide)
theorem sn_191 (hw : HW Z a0) : sl10 Z ≠ sl16 Z := slot_ne (a0 := a0) (Or.inl (w76 hw)) (Or.inr (w176 hw)) (by decide) (t := ft4_) (t' := ft0_) (by decide) (by decide)
theorem sn_192 (hw : HW Z a0) : sl10 Z ≠ sl17 Z := slot_ne (a0 := a0) (Or.inl (w76 hw)) (Or.inr (w178 hw)) (by decide) (t := ft4_) (t' := ft0_) (by decide) (by decide)
theorem sn_193 (hw : HW Z a0) : sl10 Z ≠ sl18 Z := slot_ne (a0 := a0) (Or.inl (w76 hw)) (Or.inl (w186 hw)) (by decide) (t := ft4_) (t' := ft0_) (by decide) (by decide)
theorem sn_194 (hw : HW Z a0) : sl10 Z ≠ sl19 Z := slot_ne (a0 := a0) (Or.inl (w76 hw)) (Or.inl (w188 hw)) (by decide) (t := ft4_) (t' := ft0_) (by decide) (by decide)
theorem sn_195 (hw : HW Z a0) : sl11 Z ≠ sl15 Z := slot_ne (a0 := a0) (Or.inr (w104 hw)) (Or.inr (w174 hw)) (by decide) (t := ft5_) (t' := ft5_) (by decide) (by decide)
theorem sn_196 (hw : HW Z a0) : sl11 Z ≠ sl16 Z := slot_ne (a0 := a0) (Or.inr (w104 hw)) (Or.inr (w176 hw)) (by decide) (t := ft5_) (t' := ft0_) (by decide) (by decide)
theorem sn_197 (hw : HW Z a0) : sl11 Z ≠ sl17 Z := slot_ne (a0 := a0) (Or.inr (w104 hw)) (Or.inr (w178 hw)) (by decide) (t := ft5_) (t' := ft0_) (by decide) (by decide)
theorem sn_198 (hw : HW Z a0) : sl11 Z ≠ sl18 Z := slot_ne (a0 := a0) (Or.inr (w104 hw)) (Or.inl (w186 hw)) (by decide) (t := ft5_) (t' := ft0_) (by decide) (by decide)
theorem sn_199 (hw : HW Z a0) : sl11 Z ≠ sl19 Z := slot_ne (a0 := a0) (Or.inr (w104 hw)) (Or.inl (w188 hw)) (by decide) (t := ft5_) (t' := ft0_) (by decide) (by decide)
theorem sn_200 (hw : HW Z a0) : sl12 Z ≠ sl16 Z := slot_ne (a0 := a0) (Or.inr (w106 hw)) (Or.inr (w176 hw)) (by decide) (t := ft0_) (t' := ft0_) (by decide) (by decide)
theorem sn_201 (hw : HW Z a0) : sl12 Z ≠ sl17 Z := slot_ne (a0 := a0) (Or.inr (w106 hw)) (Or.inr (w178 hw)) (by decide) (t := ft0_) (t' := ft0_) (by decide) (by decide)
theorem sn_202 (hw : HW Z a0) : sl12 Z ≠ sl18 Z := slot_ne (a0 := a0) (Or.inr (w106 hw)) (Or.inl (w186 hw)) (by decide) (t := ft0_) (t' := ft0_) (by decide) (by decide)
theorem sn_203 (hw : HW Z a0) : sl12 Z ≠ sl19 Z := slot_ne (a0 := a0) (Or.inr (w106 hw)) (Or.inl (w188 hw)) (by decide) (t := ft0_) (t' := ft0_) (by decide) (by decide)
theorem sn_204 (hw : HW Z a0) : sl13 Z ≠ sl17 Z := slot_ne (a0 := a0) (Or.inr (w108 hw)) (Or.inr (w178 hw)) (by decide) (t := ft0_) (t' := ft0_) (by decide) (by decide)
theorem sn_205 (hw : HW Z a0) : sl13 Z ≠ sl18 Z := slot_ne (a0 := a0) (Or.inr (w108 hw)) (Or.inl (w186 hw)) (by decide) (t := ft0_) (t' := ft0_) (by decide) (by decide)
theorem sn_206 (hw : HW Z a0) : sl13 Z ≠ sl19 Z := slot_ne (a0 := a0) (Or.inr (w108 hw)) (Or.inl (w188 hw)) (by decide) (t := ft0_) (t' := ft0_) (by decide) (by decide)
theorem sn_207 (hw : HW Z a0) : sl14 Z ≠ sl15 Z := slot_ne (a0 := a0) (Or.inr (w153 hw)) (Or.inr (w174 hw)) (by decide) (t := ft0_) (t' := ft5_) (by decide) (by decide)
theorem sn_208 (hw : HW Z a0) : sl14 Z ≠ sl16 Z := slot_ne (a0 := a0) (Or.inr (w153 hw)) (Or.inr (w176 hw)) (by decide) (t := ft0_) (t' := ft0_) (by decide) (by decide)
theorem sn_209 (hw : HW Z a0) : sl14 Z ≠ sl17 Z := slot_ne (a0 := a0) (Or.inr (w153 hw)) (Or.inr (w178 hw)) (by decide) (t := ft0_) (t' := ft0_) (by decide) (by decide)
theorem sn_210 (hw : HW Z a0) : sl14 Z ≠ sl18 Z := slot_ne (a0 := a0) (Or.inr (w153 hw)) (Or.inl (w186 hw)) (by decide) (t := ft0_) (t' := ft0_) (by decide) (by decide)
theorem sn_211 (hw : HW Z a0) : sl14 Z ≠ sl19 Z := slot_ne (a0 := a0) (Or.inr (w153 hw)) (Or.inl (w188 hw)) (by decide) (t := ft0_) (t' := ft0_) (by decide) (by decide)
theorem sn_212 (hw : HW Z a0) : sl15 Z ≠ sl16 Z := slot_ne (a0 := a0) (Or.inr (w174 hw)) (Or.inr (w176 hw)) (by decide) (t := ft5_) (t' := ft0_) (by decide) (by decide)
theorem sn_213 (hw : HW Z a0) : sl15 Z ≠ sl17 Z := slot_ne (a0 := a0) (Or.inr (w174 hw)) (Or.inr (w178 hw)) (by decide) (t := ft5_) (t' := ft0_) (by decide) (by decide)
theorem sn_214 (hw : HW Z a0) : sl15 Z ≠ sl18 Z := slot_ne (a0 := a0) (Or.inr (w174 hw)) (Or.inl (w186 hw)) (by decide) (t := ft5_) (t' := ft0_) (by decide) (by decide)
theorem sn_215 (hw : HW Z a0) : sl15 Z ≠ sl19 Z := slot_ne (a0 := a0) (Or.inr (w174 hw)) (Or.inl (w188 hw)) (by decide) (t := ft5_) (t' := ft0_) (by decide) (by decide)
theorem sn_216 (hw : HW Z a0) : sl16 Z ≠ sl17 Z := slot_ne (a0 := a0) (Or.inr (w176 hw)) (Or.inr (w178 hw)) (by decide) (t := ft0_) (t' := ft0_) (by decide) (by decide)
theorem sn_217 (hw : HW Z a0) : sl16 Z ≠ sl18 Z := slot_ne (a0 := a0) (Or.inr (w176 hw)) (Or.inl (w186 hw)) (by decide) (t := ft0_) (t' := ft0_) (by decide) (by decide)
theorem sn_218 (hw : HW Z a0) : sl16 Z ≠ sl19 Z := slot_ne (a0 := a0) (Or.inr (w176 hw)) (Or.inl (w188 hw)) (by decide) (t := ft0_) (t' := ft0_) (by decide) (by decide)
theorem sn_219 (hw : HW Z a0) : sl17 Z ≠ sl18 Z := slot_ne (a0 := a0) (Or.inr (w178 hw)) (Or.inl (w186 hw)) (by decide) (t := ft0_) (t' := ft0_) (by decide) (by decide)
theorem sn_220 (hw : HW Z a0) : sl17 Z ≠ sl19 Z := slot_ne (a0 := a0) (Or.inr (w178 hw)) (Or.inl (w188 hw)) (by decide) (t := ft0_) (t' := ft0_) (by decide) (by decide)
theorem sn_221 (hw : HW Z a0) : sl18 Z ≠ sl19 Z := slot_ne (a0 := a0) (Or.inl (w186 hw)) (Or.inl (w188 hw)) (by decide) (t := ft0_) (t' := ft0_) (by decide) (by decide)
theorem pn_BeanDefinition762 : plainName "com/example/graft_container/graftcontainer/BeanDefinition" = true := by first | (simp [plainName, overriddenIn]; done) | decide +kernel
abbrev y20__init_ : MethodName := ⟨"com/example/graft_container/graftcontainer/BeanDefinition", "<init>", "()V"⟩
def WS_r12__init_ (Z : State) (o0 : Addr) : List (Addr × Nat) := [(o0, (sl5 Z)), (o0, (sl6 Z)), (o0, (sl7 Z)), (o0, (sl8 Z)), (o0, (sl9 Z)), (o0, (sl10 Z)), (o0, (sl11 Z)), (o0, (sl12 Z)), (o0, (sl13 Z)), (o0, (sl14 Z)), (o0, (sl15 Z)), (o0, (sl16 Z)), (o0, (sl17 Z)), (o0, (sl18 Z)), (o0, (sl19 Z))]
def Q_r12__init_ (Z : State) (o0 o_10 o_21 o_52 o_53 o_54 o_62 o_63 o_83 : Addr) (h0 : Heap) (n0 : Nat) (v : Option Value) (h : Heap) (L : List Loc) : Prop := ∃ b9 : Addr, ∃ b27 : Addr, ∃ b34 : Addr, ∃ b42 : Addr, ∃ r_55 : Addr, ∃ r_64 : Addr, ∃ r_71 : Addr, ∃ r_78 : Addr, v = none ∧ Fr n0 L ∧ KL h0 h (WS_r12__init_ Z o0) ∧ b9 < h.size ∧ b27 < h.size ∧ b34 < h.size ∧ b42 < h.size ∧ r_55 < h.size ∧ r_64 < h.size ∧ r_71 < h.size ∧ r_78 < h.size ∧ Fd5 Z h o0 (.int 1) ∧ Fd6 Z h o0 (.int 1) ∧ Fd7 Z h o0 (.int 1) ∧ Fd8 Z h o0 (.ref b9) ∧ Fd9 Z h o0 (.int 1) ∧ Fd10 Z h o0 (.ref o_21) ∧ Fd11 Z h o0 (.ref b27) ∧ Fd12 Z h o0 (.ref b34) ∧ Fd13 Z h o0 (.ref b42) ∧ Fd14 Z h o0 (.ref r_55) ∧ Fd15 Z h o0 (.ref r_64) ∧ Fd16 Z h o0 (.ref r_71) ∧ Fd17 Z h o0 (.ref r_78) ∧ Fd18 Z h o0 (.ref o_83) ∧ Fd19 Z h o0 (.ref o_83)
theorem r12__init_ (l : Launch) (Z : State) (a0 : Array Value) (hw : HW Z a0) (ws : List Jvm.Cond) (o0 o_10 o_21 o_52 o_53 o_54 o_62 o_63 o_83 : Addr) (h0 : Heap) (n0 : Nat) (Z0 : n0 ≤ h0.size) (F_o0_singleton : Fd5 Z h0 o0 z0) (E_o0 : Ex5 Z h0 o0) (g_o0 : n0 ≤ o0) (F_o0_initMethodRequired : Fd6 Z h0 o0 z0) (F_o0_destroyMethodRequired : Fd7 Z h0 o0 z0) (S_DEFAULTCAPACITY_EMPTY_ELEMENTDATA : Sa0 Z (.ref o_10)) (O0 : Old Z n0 h0) (F_o0_dependsOn : Fd8 Z h0 o0 .null) (F_o0_autowireCandidate : Fd9 Z h0 o0 z0) (S_NO : Sa2 Z (.ref o_21)) (F_o0_autowireMode : Fd10 Z h0 o0 .null) (F_o0_qualifiers : Fd11 Z h0 o0 .null) (F_o0_propertyValues : Fd12 Z h0 o0 .null) (F_o0_constructorArguments : Fd13 Z h0 o0 .null) (M_java_util_ArrayList : OMir Z "java/util/ArrayList" o_52) (M_java_util_Collections_UnmodifiableList : OMir Z "java/util/Collections$UnmodifiableList" o_53) (M_java_util_Collections_UnmodifiableRandomAccessList : OMir Z "java/util/Collections$UnmodifiableRandomAccessList" o_54) (F_o0_dependsOnView : Fd14 Z h0 o0 .null) (M_java_util_LinkedHashMap : OMir Z "java/util/LinkedHashMap" o_62) (M_java_util_Collections_UnmodifiableMap : OMir Z "java/util/Collections$UnmodifiableMap" o_63) (F_o0_qualifiersView : Fd15 Z h0 o0 .null) (F_o0_propertyValuesView : Fd16 Z h0 o0 .null) (F_o0_constructorArgumentsView : Fd17 Z h0 o0 .null) (S_EMPTY_LIST : Sa1 Z (.ref o_83)) (F_o0_changeListeners : Fd18 Z h0 o0 .null) (F_o0_outers : Fd19 Z h0 o0 .null) :
    MF l Z y20__init_ b13_ 1 none ws ⟨5, 8, 31, 65⟩ #[(.ref o0)] h0 (Q_r12__init_ Z o0 o_10 o_21 o_52 o_53 o_54 o_62 o_63 o_83 h0 n0) := by
 refine own_body (plainFor_of_name pn_BeanDefinition762) (ef_1 o0) (by decide) (by decide) ?_
 intro p e s m below meth c s₁ hx hby hml hown hnm hret hZ hh e0 X0
 have N0 := Fr.nil n0
 obtain ⟨T1, X1, e1, st1⟩ := initO X0 hx hZ hown (w37 hw) (w13 hw) (w14 hw) e0 (g := (mkF m 1 #[vr o0] [(.ref o0)])) rfl hml.symm rfl (hb hby d181) (by decide) (W := 0) (own_wr rfl rfl) (by decide)
 obtain ⟨T2, h2, X2, e2, W2, st2⟩ := putF X1 hx hZ hown (host := "") (Or.inl (w38 hw)) Via.refl e1 F_o0_singleton E_o0 (Or.inl (w39 hw)) (w32 hw) (ty := .boolean) (by decide) (by decide) (by decide) (g := (mkF m 6 #[vr o0] [(.int 1), (.ref o0)])) rfl rfl (hb hby d184)
 have K2 := KL.ofW W2
 have Fw2 : Fd5 Z h2 o0 (.int 1) := Fld.same W2 F_o0_singleton
 have N2 := Fr.snoc X2 N0 g_o0
 have f3 := (kFld K2 F_o0_initMethodRequired (nwR (sn_4 hw) nw0))
 have f4 := (kExa K2 E_o0)
 obtain ⟨T5, h5, X5, e5, W5, st5⟩ := putF X2 hx hZ hown (host := "") (Or.inl (w40 hw)) Via.refl e2 f3 f4 (Or.inl (w41 hw)) (w32 hw) (ty := .boolean) (by decide) (by decide) (by decide) (g := (mkF m 11 #[vr o0] [(.int 1), (.ref o0)])) rfl rfl (hb hby d187)
 have K5 := KL.ofW W5
 have Fw5 : Fd6 Z h5 o0 (.int 1) := Fld.same W5 f3
 have N5 := Fr.snoc X5 N2 g_o0
 have f6 := (kFld K5 (kFld K2 F_o0_destroyMethodRequired (nwR (sn_5 hw) nw0)) (nwR (sn_6 hw) nw0))
 have f7 := (kExa K5 f4)
 obtain ⟨T8, h8, X8, e8, W8, st8⟩ := putF X5 hx hZ hown (host := "") (Or.inl (w42 hw)) Via.refl e5 f6 f7 (Or.inl (w43 hw)) (w32 hw) (ty := .boolean) (by decide) (by decide) (by decide) (g := (mkF m 16 #[vr o0] [(.int 1), (.ref o0)])) rfl rfl (hb hby d190)
 have K8 := KL.ofW W8
 have Fw8 : Fd7 Z h8 o0 (.int 1) := Fld.same W8 f6
 have N8 := Fr.snoc X8 N5 g_o0
 obtain ⟨T9, h9, X9, e9, E9, A9, D9, -, st9⟩ := newO X8 hx hZ hown (w44 hw) (w45 hw) (w46 hw) e8 (g := (mkF m 20 #[vr o0] [(.ref o0)])) rfl (hb hby d192) (by decide) (by decide)
 obtain ⟨b9, g9⟩ : ∃ z, z = h8.size := ⟨_, rfl⟩
 rw [← g9] at A9 D9 st9
 have ge_b9 : h8.size ≤ b9 := Nat.le_of_eq g9.symm
 have K9 := KL.ofE E9
 have F_b9_modCount : Fd23 Z h9 b9 z0 := D9 (Or.inl (w64 hw)) (ty := .int) (by decide)
 have F_b9_elementData : Fd24 Z h9 b9 .null := D9 (Or.inl (w67 hw)) (ty := (.array (.object "java/lang/Object"))) (by decide)
 have sz_0_2 := (Nat.le_trans K2.1 K5.1)
 have sz_0_3 := (Nat.le_trans sz_0_2 K8.1)
 have gg12 := Nat.le_trans Z0 (Nat.le_trans sz_0_3 ge_b9)
 have f13 := (kOld K9 (kOld K8 (kOld K5 (kOld K2 O0 (naG g_o0 na0)) (naG g_o0 na0)) (naG g_o0 na0)) na0)
 have sz_0_4 := (Nat.le_trans sz_0_3 K9.1)
 obtain ⟨_, T11, L11, X11, hQ11, st11⟩ := own_init X9 hx hZ rfl hown (w47 hw) (w48 hw) (w46 hw) (w49 hw) (by decide) (r13__init_ l Z a0 hw [] b9 o_10 h9 n0 (Nat.le_trans Z0 sz_0_4) F_b9_modCount A9 gg12 S_DEFAULTCAPACITY_EMPTY_ELEMENTDATA f13 F_b9_elementData) e9 (W := 2) (by decide) (g := (mkF m 24 #[vr o0] [(.ref b9), (.ref b9), (.ref o0)])) rfl hml.symm (argsL := []) (rest := [(.ref b9), (.ref o0)]) (lenOf pd_9 rfl) rfl rfl (own_wr rfl rfl) (hb hby d194)
 obtain ⟨rfl, N11q, K11, Q11_0, Q11_1⟩ := hQ11
 have N11 := Fr.app N8 N11q
 have lt_o0 : o0 < h0.size := Fld.lt F_o0_singleton
 have ne14 := lt_ne (Nat.lt_of_lt_of_le lt_o0 sz_0_3) ge_b9
 have f15 := (kFld K11 (kFld K9 (kFld K8 (kFld K5 (kFld K2 F_o0_dependsOn (nwR (sn_9 hw) nw0)) (nwR (sn_10 hw) nw0)) (nwR (sn_11 hw) nw0)) nw0) (nwL ne14 (nwL ne14 nw0)))
 have f16 := (kExa K11 (kExa K9 (kExa K8 f7)))
 obtain ⟨T17, h17, X17, e17, W17, st17⟩ := putF X11 hx hZ hown (host := "") (Or.inl (w68 hw)) Via.refl rfl f15 f16 (Or.inr ⟨(w69 hw), rfl, hnm⟩) (w32 hw) (ty := (.object "java/util/List")) (by decide) rfl rfl (g := (mkF m 27 #[vr o0] [(.ref b9), (.ref o0)])) rfl rfl (hb hby d210)
 have K17 := KL.ofW W17
 have Fw17 : Fd8 Z h17 o0 (.ref b9) := Fld.same W17 f15
 have N17 := Fr.snoc X17 N11 g_o0
 have f18 := (kFld K17 (kFld K11 (kFld K9 (kFld K8 (kFld K5 (kFld K2 F_o0_autowireCandidate (nwR (sn_12 hw) nw0)) (nwR (sn_13 hw) nw0)) (nwR (sn_14 hw) nw0)) nw0) (nwL ne14 (nwL ne14 nw0))) (nwR (sn_15 hw) nw0))
 have f19 := (kExa K17 f16)
 obtain ⟨T20, h20, X20, e20, W20, st20⟩ := putF X17 hx hZ hown (host := "") (Or.inl (w70 hw)) Via.refl e17 f18 f19 (Or.inl (w71 hw)) (w32 hw) (ty := .boolean) (by decide) (by decide) (by decide) (g := (mkF m 32 #[vr o0] [(.int 1), (.ref o0)])) rfl rfl (hb hby d213)
 have K20 := KL.ofW W20
 have Fw20 : Fd9 Z h20 o0 (.int 1) := Fld.same W20 f18
 have N20 := Fr.snoc X20 N17 g_o0
 have f22 := (kOld K20 (kOld K17 (kOld K11 f13 (naG gg12 (naG gg12 na0))) (naG g_o0 na0)) (naG g_o0 na0))
 obtain ⟨T23, X23, e23, st23⟩ := getS2 X20 hx hZ hown (host := "") (Or.inl (w72 hw)) Via.refl e20 (Sta.ext f22.2 S_NO) (g := (mkF m 36 #[vr o0] [(.ref o0)])) rfl (hb hby d215)
 have f24 := (kFld K20 (kFld K17 (kFld K11 (kFld K9 (kFld K8 (kFld K5 (kFld K2 F_o0_autowireMode (nwR (sn_16 hw) nw0)) (nwR (sn_17 hw) nw0)) (nwR (sn_18 hw) nw0)) nw0) (nwL ne14 (nwL ne14 nw0))) (nwR (sn_19 hw) nw0)) (nwR (sn_20 hw) nw0))
 have f25 := (kExa K20 f19)
 obtain ⟨T26, h26, X26, e26, W26, st26⟩ := putF X23 hx hZ hown (host := "") (Or.inl (w75 hw)) Via.refl e23 f24 f25 (Or.inl (w76 hw)) (w32 hw) (ty := (.object "com/example/graft_container/graftcontainer/BeanDefinition$Autowire")) (by decide) rfl rfl (g := (mkF m 39 #[vr o0] [(.ref o_21), (.ref o0)])) rfl rfl (hb hby d216)
 have K26 := KL.ofW W26
 have Fw26 : Fd10 Z h26 o0 (.ref o_21) := Fld.same W26 f24
 have N26 := Fr.snoc X26 N20 g_o0
 obtain ⟨T27, h27, X27, e27, E27, A27, D27, -, st27⟩ := newO X26 hx hZ hown (w77 hw) (w78 hw) (w79 hw) e26 (g := (mkF m 43 #[vr o0] [(.ref o0)])) rfl (hb hby d218) (by decide) (by decide)
 obtain ⟨b27, g27⟩ : ∃ z, z = h26.size := ⟨_, rfl⟩
 rw [← g27] at A27 D27 st27
 have ge_b27 : h26.size ≤ b27 := Nat.le_of_eq g27.symm
 have K27 := KL.ofE E27
 have F_b27_loadFactor : Fd25 Z h27 b27 (defaultValue .float) := D27 (Or.inr (w98 hw)) (ty := .float) (by decide)
 have F_b27_putMode : Fd26 Z h27 b27 z0 := D27 (Or.inl (w100 hw)) (ty := .int) (by decide)
 have F_b27_accessOrder : Fd27 Z h27 b27 z0 := D27 (Or.inr (w102 hw)) (ty := .boolean) (by decide)
 have sz_0_5 := (Nat.le_trans sz_0_4 K11.1)
 have sz_0_6 := (Nat.le_trans sz_0_5 K17.1)
 have sz_0_7 := (Nat.le_trans sz_0_6 K20.1)
 have sz_0_8 := (Nat.le_trans sz_0_7 K26.1)
 have gg29 := Nat.le_trans Z0 (Nat.le_trans sz_0_8 ge_b27)
 have sz_0_9 := (Nat.le_trans sz_0_8 K27.1)
 obtain ⟨_, T28, L28, X28, hQ28, st28⟩ := own_init X27 hx hZ rfl hown (w80 hw) (w81 hw) (w79 hw) (w82 hw) (by decide) (r16__init_ l Z a0 hw [] b27 (defaultValue .float) h27 n0 (Nat.le_trans Z0 sz_0_9) F_b27_loadFactor A27 gg29 F_b27_putMode F_b27_accessOrder) e27 (W := 2) (by decide) (g := (mkF m 47 #[vr o0] [(.ref b27), (.ref b27), (.ref o0)])) rfl hml.symm (argsL := []) (rest := [(.ref b27), (.ref o0)]) (lenOf pd_9 rfl) rfl rfl (own_wr rfl rfl) (hb hby d220)
 obtain ⟨rfl, N28q, K28, Q28_0, Q28_1, Q28_2⟩ := hQ28
 have N28 := Fr.app N26 N28q
 have ne30 := lt_ne (Nat.lt_of_lt_of_le lt_o0 sz_0_8) ge_b27
 have f31 := (kFld K28 (kFld K27 (kFld K26 (kFld K20 (kFld K17 (kFld K11 (kFld K9 (kFld K8 (kFld K5 (kFld K2 F_o0_qualifiers (nwR (sn_27 hw) nw0)) (nwR (sn_28 hw) nw0)) (nwR (sn_29 hw) nw0)) nw0) (nwL ne14 (nwL ne14 nw0))) (nwR (sn_30 hw) nw0)) (nwR (sn_31 hw) nw0)) (nwR (sn_32 hw) nw0)) nw0) (nwM 3 rfl ne30 nw0))
 have f32 := (kExa K28 (kExa K27 (kExa K26 f25)))
 obtain ⟨T33, h33, X33, e33, W33, st33⟩ := putF X28 hx hZ hown (host := "") (Or.inl (w103 hw)) Via.refl rfl f31 f32 (Or.inr ⟨(w104 hw), rfl, hnm⟩) (w32 hw) (ty := (.object "java/util/Map")) (by decide) rfl rfl (g := (mkF m 50 #[vr o0] [(.ref b27), (.ref o0)])) rfl rfl (hb hby d239)
 have K33 := KL.ofW W33
 have Fw33 : Fd11 Z h33 o0 (.ref b27) := Fld.same W33 f31
 have N33 := Fr.snoc X33 N28 g_o0
 obtain ⟨T34, h34, X34, e34, E34, A34, D34, -, st34⟩ := newO X33 hx hZ hown (w44 hw) (w45 hw) (w46 hw) e33 (g := (mkF m 54 #[vr o0] [(.ref o0)])) rfl (hb hby d241) (by decide) (by decide)
 obtain ⟨b34, g34⟩ : ∃ z, z = h33.size := ⟨_, rfl⟩
 rw [← g34] at A34 D34 st34
 have ge_b34 : h33.size ≤ b34 := Nat.le_of_eq g34.symm
 have K34 := KL.ofE E34
 have F_b34_modCount : Fd23 Z h34 b34 z0 := D34 (Or.inl (w64 hw)) (ty := .int) (by decide)
 have F_b34_elementData : Fd24 Z h34 b34 .null := D34 (Or.inl (w67 hw)) (ty := (.array (.object "java/lang/Object"))) (by decide)
 have sz_0_10 := (Nat.le_trans sz_0_9 K28.1)
 have sz_0_11 := (Nat.le_trans sz_0_10 K33.1)
 have gg36 := Nat.le_trans Z0 (Nat.le_trans sz_0_11 ge_b34)
 have f37 := (kOld K34 (kOld K33 (kOld K28 (kOld K27 (kOld K26 f22 (naG g_o0 na0)) na0) (naGM 3 rfl gg29 na0)) (naG g_o0 na0)) na0)
 have sz_0_12 := (Nat.le_trans sz_0_11 K34.1)
 obtain ⟨_, T35, L35, X35, hQ35, st35⟩ := own_init X34 hx hZ rfl hown (w47 hw) (w48 hw) (w46 hw) (w49 hw) (by decide) (r13__init_ l Z a0 hw [] b34 o_10 h34 n0 (Nat.le_trans Z0 sz_0_12) F_b34_modCount A34 gg36 S_DEFAULTCAPACITY_EMPTY_ELEMENTDATA f37 F_b34_elementData) e34 (W := 2) (by decide) (g := (mkF m 58 #[vr o0] [(.ref b34), (.ref b34), (.ref o0)])) rfl hml.symm (argsL := []) (rest := [(.ref b34), (.ref o0)]) (lenOf pd_9 rfl) rfl rfl (own_wr rfl rfl) (hb hby d243)
 obtain ⟨rfl, N35q, K35, Q35_0, Q35_1⟩ := hQ35
 have N35 := Fr.app N33 N35q
 have ne38 := lt_ne (Nat.lt_of_lt_of_le lt_o0 sz_0_11) ge_b34
 have f39 := (kFld K35 (kFld K34 (kFld K33 (kFld K28 (kFld K27 (kFld K26 (kFld K20 (kFld K17 (kFld K11 (kFld K9 (kFld K8 (kFld K5 (kFld K2 F_o0_propertyValues (nwR (sn_33 hw) nw0)) (nwR (sn_34 hw) nw0)) (nwR (sn_35 hw) nw0)) nw0) (nwL ne14 (nwL ne14 nw0))) (nwR (sn_36 hw) nw0)) (nwR (sn_37 hw) nw0)) (nwR (sn_38 hw) nw0)) nw0) (nwM 3 rfl ne30 nw0)) (nwR (sn_39 hw) nw0)) nw0) (nwL ne38 (nwL ne38 nw0)))
 have f40 := (kExa K35 (kExa K34 (kExa K33 f32)))
 obtain ⟨T41, h41, X41, e41, W41, st41⟩ := putF X35 hx hZ hown (host := "") (Or.inl (w105 hw)) Via.refl rfl f39 f40 (Or.inr ⟨(w106 hw), rfl, hnm⟩) (w32 hw) (ty := (.object "java/util/List")) (by decide) rfl rfl (g := (mkF m 61 #[vr o0] [(.ref b34), (.ref o0)])) rfl rfl (hb hby d244)
 have K41 := KL.ofW W41
 have Fw41 : Fd12 Z h41 o0 (.ref b34) := Fld.same W41 f39
 have N41 := Fr.snoc X41 N35 g_o0
 obtain ⟨T42, h42, X42, e42, E42, A42, D42, -, st42⟩ := newO X41 hx hZ hown (w44 hw) (w45 hw) (w46 hw) e41 (g := (mkF m 65 #[vr o0] [(.ref o0)])) rfl (hb hby d246) (by decide) (by decide)
 obtain ⟨b42, g42⟩ : ∃ z, z = h41.size := ⟨_, rfl⟩
 rw [← g42] at A42 D42 st42
 have ge_b42 : h41.size ≤ b42 := Nat.le_of_eq g42.symm
 have K42 := KL.ofE E42
 have F_b42_modCount : Fd23 Z h42 b42 z0 := D42 (Or.inl (w64 hw)) (ty := .int) (by decide)
 have F_b42_elementData : Fd24 Z h42 b42 .null := D42 (Or.inl (w67 hw)) (ty := (.array (.object "java/lang/Object"))) (by decide)
 have sz_0_13 := (Nat.le_trans sz_0_12 K35.1)
 have sz_0_14 := (Nat.le_trans sz_0_13 K41.1)
 have gg44 := Nat.le_trans Z0 (Nat.le_trans sz_0_14 ge_b42)
 have f45 := (kOld K42 (kOld K41 (kOld K35 f37 (naG gg36 (naG gg36 na0))) (naG g_o0 na0)) na0)
 have sz_0_15 := (Nat.le_trans sz_0_14 K42.1)
 obtain ⟨_, T43, L43, X43, hQ43, st43⟩ := own_init X42 hx hZ rfl hown (w47 hw) (w48 hw) (w46 hw) (w49 hw) (by decide) (r13__init_ l Z a0 hw [] b42 o_10 h42 n0 (Nat.le_trans Z0 sz_0_15) F_b42_modCount A42 gg44 S_DEFAULTCAPACITY_EMPTY_ELEMENTDATA f45 F_b42_elementData) e42 (W := 2) (by decide) (g := (mkF m 69 #[vr o0] [(.ref b42), (.ref b42), (.ref o0)])) rfl hml.symm (argsL := []) (rest := [(.ref b42), (.ref o0)]) (lenOf pd_9 rfl) rfl rfl (own_wr rfl rfl) (hb hby d248)
 obtain ⟨rfl, N43q, K43, Q43_0, Q43_1⟩ := hQ43
 have N43 := Fr.app N41 N43q
 have ne46 := lt_ne (Nat.lt_of_lt_of_le lt_o0 sz_0_14) ge_b42
 have f47 := (kFld K43 (kFld K42 (kFld K41 (kFld K35 (kFld K34 (kFld K33 (kFld K28 (kFld K27 (kFld K26 (kFld K20 (kFld K17 (kFld K11 (kFld K9 (kFld K8 (kFld K5 (kFld K2 F_o0_constructorArguments (nwR (sn_40 hw) nw0)) (nwR (sn_41 hw) nw0)) (nwR (sn_42 hw) nw0)) nw0) (nwL ne14 (nwL ne14 nw0))) (nwR (sn_43 hw) nw0)) (nwR (sn_44 hw) nw0)) (nwR (sn_45 hw) nw0)) nw0) (nwM 3 rfl ne30 nw0)) (nwR (sn_46 hw) nw0)) nw0) (nwL ne38 (nwL ne38 nw0))) (nwR (sn_47 hw) nw0)) nw0) (nwL ne46 (nwL ne46 nw0)))
 have f48 := (kExa K43 (kExa K42 (kExa K41 f40)))
 obtain ⟨T49, h49, X49, e49, W49, st49⟩ := putF X43 hx hZ hown (host := "") (Or.inl (w107 hw)) Via.refl rfl f47 f48 (Or.inr ⟨(w108 hw), rfl, hnm⟩) (w32 hw) (ty := (.object "java/util/List")) (by decide) rfl rfl (g := (mkF m 72 #[vr o0] [(.ref b42), (.ref o0)])) rfl rfl (hb hby d249)
 have K49 := KL.ofW W49
 have Fw49 : Fd13 Z h49 o0 (.ref b42) := Fld.same W49 f47
 have N49 := Fr.snoc X49 N43 g_o0
 have f50 := (kFld K49 (kFld K43 (kFld K42 (kFld K41 (kFld K35 (kFld K34 (kFld K33 (kFld K28 (kFld K27 (kFld K26 (kFld K20 Fw17 (nwR (sn_48 hw) nw0)) (nwR (sn_49 hw) nw0)) nw0) (nwM 3 rfl ne30 nw0)) (nwR (sn_50 hw) nw0)) nw0) (nwL ne38 (nwL ne38 nw0))) (nwR (sn_51 hw) nw0)) nw0) (nwL ne46 (nwL ne46 nw0))) (nwR (sn_52 hw) nw0))
 obtain ⟨T51, X51, e51, st51⟩ := getF X49 hx hZ hown (host := "") (Or.inl (w68 hw)) Via.refl e49 f50 (g := (mkF m 77 #[vr o0] [(.ref o0), (.ref o0)])) rfl rfl (hb hby d252)
 have f56 := (kExa K49 (kExa K43 (kExa K42 (kExa K41 (kExa K35 (kExa K34 (kExa K33 (kExa K28 (kExa K27 (kExa K26 (kExa K20 (kExa K17 (kExa K11 A9)))))))))))))
 have sz_0_16 := (Nat.le_trans sz_0_15 K43.1)
 have sz_0_17 := (Nat.le_trans sz_0_16 K49.1)
 obtain ⟨_, T55, L55, X55, hQ55, st55⟩ := own_static X51 hx hZ hown (w109 hw) (w110 hw) (w111 hw) (w112 hw) (by decide) (r_unl l Z a0 hw [] b9 o_52 o_53 o_54 h49 n0 (Nat.le_trans Z0 sz_0_17) f56 M_java_util_ArrayList M_java_util_Collections_UnmodifiableList M_java_util_Collections_UnmodifiableRandomAccessList) e51 (W := 1) (by decide) (g := (mkF m 80 #[vr o0] [(.ref b9), (.ref o0)])) rfl hml.symm (argsL := [(.ref b9)]) (rest := [(.ref o0)]) (lenOf pd_10 rfl) rfl rfl (own_wr rfl rfl) (hb hby d253)
 obtain ⟨r_55, rfl, N55q, K55, Q55_0⟩ := hQ55
 have N55 := Fr.app N49 N55q
 have f57 := (kFld K55 (kFld K49 (kFld K43 (kFld K42 (kFld K41 (kFld K35 (kFld K34 (kFld K33 (kFld K28 (kFld K27 (kFld K26 (kFld K20 (kFld K17 (kFld K11 (kFld K9 (kFld K8 (kFld K5 (kFld K2 F_o0_dependsOnView (nwR (sn_53 hw) nw0)) (nwR (sn_54 hw) nw0)) (nwR (sn_55 hw) nw0)) nw0) (nwL ne14 (nwL ne14 nw0))) (nwR (sn_56 hw) nw0)) (nwR (sn_57 hw) nw0)) (nwR (sn_58 hw) nw0)) nw0) (nwM 3 rfl ne30 nw0)) (nwR (sn_59 hw) nw0)) nw0) (nwL ne38 (nwL ne38 nw0))) (nwR (sn_60 hw) nw0)) nw0) (nwL ne46 (nwL ne46 nw0))) (nwR (sn_61 hw) nw0)) nw0)
 have f58 := (kExa K55 (kExa K49 f48))
 obtain ⟨T59, h59, X59, e59, W59, st59⟩ := putF X55 hx hZ hown (host := "") (Or.inl (w152 hw)) Via.refl rfl f57 f58 (Or.inr ⟨(w153 hw), rfl, hnm⟩) (w32 hw) (ty := (.object "java/util/List")) (by decide) rfl rfl (g := (mkF m 83 #[vr o0] [(.ref r_55), (.ref o0)])) rfl rfl (hb hby d254)
 have K59 := KL.ofW W59
 have Fw59 : Fd14 Z h59 o0 (.ref r_55) := Fld.same W59 f57
 have N59 := Fr.snoc X59 N55 g_o0
 have f60 := (kFld K59 (kFld K55 (kFld K49 (kFld K43 (kFld K42 (kFld K41 (kFld K35 (kFld K34 Fw33 nw0) (nwL ne38 (nwL ne38 nw0))) (nwR (sn_62 hw) nw0)) nw0) (nwL ne46 (nwL ne46 nw0))) (nwR (sn_63 hw) nw0)) nw0) (nwR (sn_64 hw) nw0))
 obtain ⟨T61, X61, e61, st61⟩ := getF X59 hx hZ hown (host := "") (Or.inl (w103 hw)) Via.refl e59 f60 (g := (mkF m 88 #[vr o0] [(.ref o0), (.ref o0)])) rfl rfl (hb hby d257)
 have f65 := (kExa K59 (kExa K55 (kExa K49 (kExa K43 (kExa K42 (kExa K41 (kExa K35 (kExa K34 (kExa K33 (kExa K28 A27))))))))))
 have sz_0_18 := (Nat.le_trans sz_0_17 K55.1)
 have sz_0_19 := (Nat.le_trans sz_0_18 K59.1)
 obtain ⟨_, T64, L64, X64, hQ64, st64⟩ := own_static X61 hx hZ hown (w154 hw) (w155 hw) (w111 hw) (w156 hw) (by decide) (r_unm l Z a0 hw [] b27 o_62 o_63 h59 n0 (Nat.le_trans Z0 sz_0_19) f65 M_java_util_LinkedHashMap M_java_util_Collections_UnmodifiableMap) e61 (W := 1) (by decide) (g := (mkF m 91 #[vr o0] [(.ref b27), (.ref o0)])) rfl hml.symm (argsL := [(.ref b27)]) (rest := [(.ref o0)]) (lenOf pd_11 rfl) rfl rfl (own_wr rfl rfl) (hb hby d258)
 obtain ⟨r_64, rfl, N64q, K64, Q64_0⟩ := hQ64
 have N64 := Fr.app N59 N64q
 have f66 := (kFld K64 (kFld K59 (kFld K55 (kFld K49 (kFld K43 (kFld K42 (kFld K41 (kFld K35 (kFld K34 (kFld K33 (kFld K28 (kFld K27 (kFld K26 (kFld K20 (kFld K17 (kFld K11 (kFld K9 (kFld K8 (kFld K5 (kFld K2 F_o0_qualifiersView (nwR (sn_65 hw) nw0)) (nwR (sn_66 hw) nw0)) (nwR (sn_67 hw) nw0)) nw0) (nwL ne14 (nwL ne14 nw0))) (nwR (sn_68 hw) nw0)) (nwR (sn_69 hw) nw0)) (nwR (sn_70 hw) nw0)) nw0) (nwM 3 rfl ne30 nw0)) (nwR (sn_71 hw) nw0)) nw0) (nwL ne38 (nwL ne38 nw0))) (nwR (sn_72 hw) nw0)) nw0) (nwL ne46 (nwL ne46 nw0))) (nwR (sn_73 hw) nw0)) nw0) (nwR (sn_74 hw) nw0)) nw0)
 have f67 := (kExa K64 (kExa K59 f58))
 obtain ⟨T68, h68, X68, e68, W68, st68⟩ := putF X64 hx hZ hown (host := "") (Or.inl (w173 hw)) Via.refl rfl f66 f67 (Or.inr ⟨(w174 hw), rfl, hnm⟩) (w32 hw) (ty := (.object "java/util/Map")) (by decide) rfl rfl (g := (mkF m 94 #[vr o0] [(.ref r_64), (.ref o0)])) rfl rfl (hb hby d259)
 have K68 := KL.ofW W68
 have Fw68 : Fd15 Z h68 o0 (.ref r_64) := Fld.same W68 f66
 have N68 := Fr.snoc X68 N64 g_o0
 have f69 := (kFld K68 (kFld K64 (kFld K59 (kFld K55 (kFld K49 (kFld K43 (kFld K42 Fw41 nw0) (nwL ne46 (nwL ne46 nw0))) (nwR (sn_75 hw) nw0)) nw0) (nwR (sn_76 hw) nw0)) nw0) (nwR (sn_77 hw) nw0))
 obtain ⟨T70, X70, e70, st70⟩ := getF X68 hx hZ hown (host := "") (Or.inl (w105 hw)) Via.refl e68 f69 (g := (mkF m 99 #[vr o0] [(.ref o0), (.ref o0)])) rfl rfl (hb hby d262)
 have f72 := (kExa K68 (kExa K64 (kExa K59 (kExa K55 (kExa K49 (kExa K43 (kExa K42 (kExa K41 (kExa K35 A34)))))))))
 have sz_0_20 := (Nat.le_trans sz_0_19 K64.1)
 have sz_0_21 := (Nat.le_trans sz_0_20 K68.1)
 obtain ⟨_, T71, L71, X71, hQ71, st71⟩ := own_static X70 hx hZ hown (w109 hw) (w110 hw) (w111 hw) (w112 hw) (by decide) (r_unl l Z a0 hw [] b34 o_52 o_53 o_54 h68 n0 (Nat.le_trans Z0 sz_0_21) f72 M_java_util_ArrayList M_java_util_Collections_UnmodifiableList M_java_util_Collections_UnmodifiableRandomAccessList) e70 (W := 1) (by decide) (g := (mkF m 102 #[vr o0] [(.ref b34), (.ref o0)])) rfl hml.symm (argsL := [(.ref b34)]) (rest := [(.ref o0)]) (lenOf pd_10 rfl) rfl rfl (own_wr rfl rfl) (hb hby d263)
 obtain ⟨r_71, rfl, N71q, K71, Q71_0⟩ := hQ71
 have N71 := Fr.app N68 N71q
 have f73 := (kFld K71 (kFld K68 (kFld K64 (kFld K59 (kFld K55 (kFld K49 (kFld K43 (kFld K42 (kFld K41 (kFld K35 (kFld K34 (kFld K33 (kFld K28 (kFld K27 (kFld K26 (kFld K20 (kFld K17 (kFld K11 (kFld K9 (kFld K8 (kFld K5 (kFld K2 F_o0_propertyValuesView (nwR (sn_78 hw) nw0)) (nwR (sn_79 hw) nw0)) (nwR (sn_80 hw) nw0)) nw0) (nwL ne14 (nwL ne14 nw0))) (nwR (sn_81 hw) nw0)) (nwR (sn_82 hw) nw0)) (nwR (sn_83 hw) nw0)) nw0) (nwM 3 rfl ne30 nw0)) (nwR (sn_84 hw) nw0)) nw0) (nwL ne38 (nwL ne38 nw0))) (nwR (sn_85 hw) nw0)) nw0) (nwL ne46 (nwL ne46 nw0))) (nwR (sn_86 hw) nw0)) nw0) (nwR (sn_87 hw) nw0)) nw0) (nwR (sn_88 hw) nw0)) nw0)
 have f74 := (kExa K71 (kExa K68 f67))
 obtain ⟨T75, h75, X75, e75, W75, st75⟩ := putF X71 hx hZ hown (host := "") (Or.inl (w175 hw)) Via.refl rfl f73 f74 (Or.inr ⟨(w176 hw), rfl, hnm⟩) (w32 hw) (ty := (.object "java/util/List")) (by decide) rfl rfl (g := (mkF m 105 #[vr o0] [(.ref r_71), (.ref o0)])) rfl rfl (hb hby d264)
 have K75 := KL.ofW W75
 have Fw75 : Fd16 Z h75 o0 (.ref r_71) := Fld.same W75 f73
 have N75 := Fr.snoc X75 N71 g_o0
 have f76 := (kFld K75 (kFld K71 (kFld K68 (kFld K64 (kFld K59 (kFld K55 Fw49 nw0) (nwR (sn_89 hw) nw0)) nw0) (nwR (sn_90 hw) nw0)) nw0) (nwR (sn_91 hw) nw0))
 obtain ⟨T77, X77, e77, st77⟩ := getF X75 hx hZ hown (host := "") (Or.inl (w107 hw)) Via.refl e75 f76 (g := (mkF m 110 #[vr o0] [(.ref o0), (.ref o0)])) rfl rfl (hb hby d267)
 have f79 := (kExa K75 (kExa K71 (kExa K68 (kExa K64 (kExa K59 (kExa K55 (kExa K49 (kExa K43 A42))))))))
 have sz_0_22 := (Nat.le_trans sz_0_21 K71.1)
 have sz_0_23 := (Nat.le_trans sz_0_22 K75.1)
 obtain ⟨_, T78, L78, X78, hQ78, st78⟩ := own_static X77 hx hZ hown (w109 hw) (w110 hw) (w111 hw) (w112 hw) (by decide) (r_unl l Z a0 hw [] b42 o_52 o_53 o_54 h75 n0 (Nat.le_trans Z0 sz_0_23) f79 M_java_util_ArrayList M_java_util_Collections_UnmodifiableList M_java_util_Collections_UnmodifiableRandomAccessList) e77 (W := 1) (by decide) (g := (mkF m 113 #[vr o0] [(.ref b42), (.ref o0)])) rfl hml.symm (argsL := [(.ref b42)]) (rest := [(.ref o0)]) (lenOf pd_10 rfl) rfl rfl (own_wr rfl rfl) (hb hby d268)
 obtain ⟨r_78, rfl, N78q, K78, Q78_0⟩ := hQ78
 have N78 := Fr.app N75 N78q
 have f80 := (kFld K78 (kFld K75 (kFld K71 (kFld K68 (kFld K64 (kFld K59 (kFld K55 (kFld K49 (kFld K43 (kFld K42 (kFld K41 (kFld K35 (kFld K34 (kFld K33 (kFld K28 (kFld K27 (kFld K26 (kFld K20 (kFld K17 (kFld K11 (kFld K9 (kFld K8 (kFld K5 (kFld K2 F_o0_constructorArgumentsView (nwR (sn_92 hw) nw0)) (nwR (sn_93 hw) nw0)) (nwR (sn_94 hw) nw0)) nw0) (nwL ne14 (nwL ne14 nw0))) (nwR (sn_95 hw) nw0)) (nwR (sn_96 hw) nw0)) (nwR (sn_97 hw) nw0)) nw0) (nwM 3 rfl ne30 nw0)) (nwR (sn_98 hw) nw0)) nw0) (nwL ne38 (nwL ne38 nw0))) (nwR (sn_99 hw) nw0)) nw0) (nwL ne46 (nwL ne46 nw0))) (nwR (sn_100 hw) nw0)) nw0) (nwR (sn_101 hw) nw0)) nw0) (nwR (sn_102 hw) nw0)) nw0) (nwR (sn_103 hw) nw0)) nw0)
 have f81 := (kExa K78 (kExa K75 f74))
 obtain ⟨T82, h82, X82, e82, W82, st82⟩ := putF X78 hx hZ hown (host := "") (Or.inl (w177 hw)) Via.refl rfl f80 f81 (Or.inr ⟨(w178 hw), rfl, hnm⟩) (w32 hw) (ty := (.object "java/util/List")) (by decide) rfl rfl (g := (mkF m 116 #[vr o0] [(.ref r_78), (.ref o0)])) rfl rfl (hb hby d269)
 have K82 := KL.ofW W82
 have Fw82 : Fd17 Z h82 o0 (.ref r_78) := Fld.same W82 f80
 have N82 := Fr.snoc X82 N78 g_o0
 have f85 := (kOld K82 (kOld K78 (kOld K75 (kOld K71 (kOld K68 (kOld K64 (kOld K59 (kOld K55 (kOld K49 (kOld K43 f45 (naG gg44 (naG gg44 na0))) (naG g_o0 na0)) na0) (naG g_o0 na0)) na0) (naG g_o0 na0)) na0) (naG g_o0 na0)) na0) (naG g_o0 na0))
 have sz_0_24 := (Nat.le_trans sz_0_23 K78.1)
 have sz_0_25 := (Nat.le_trans sz_0_24 K82.1)
 obtain ⟨_, T84, L84, X84, hQ84, st84⟩ := own_static X82 hx hZ hown (w179 hw) (w180 hw) (w181 hw) (w182 hw) (by decide) (r19_of l Z a0 hw [] o_83 h82 n0 (Nat.le_trans Z0 sz_0_25) S_EMPTY_LIST f85) e82 (W := 1) (by decide) (g := (mkF m 120 #[vr o0] [(.ref o0)])) rfl hml.symm (argsL := []) (rest := [(.ref o0)]) (lenOf pd_12 rfl) rfl rfl (own_wr rfl rfl) (hb hby d271)
 obtain ⟨rfl, N84q, e84⟩ := hQ84
 have N84 := Fr.app N82 N84q
 have f86 := (kFld K82 (kFld K78 (kFld K75 (kFld K71 (kFld K68 (kFld K64 (kFld K59 (kFld K55 (kFld K49 (kFld K43 (kFld K42 (kFld K41 (kFld K35 (kFld K34 (kFld K33 (kFld K28 (kFld K27 (kFld K26 (kFld K20 (kFld K17 (kFld K11 (kFld K9 (kFld K8 (kFld K5 (kFld K2 F_o0_changeListeners (nwR (sn_104 hw) nw0)) (nwR (sn_105 hw) nw0)) (nwR (sn_106 hw) nw0)) nw0) (nwL ne14 (nwL ne14 nw0))) (nwR (sn_107 hw) nw0)) (nwR (sn_108 hw) nw0)) (nwR (sn_109 hw) nw0)) nw0) (nwM 3 rfl ne30 nw0)) (nwR (sn_110 hw) nw0)) nw0) (nwL ne38 (nwL ne38 nw0))) (nwR (sn_111 hw) nw0)) nw0) (nwL ne46 (nwL ne46 nw0))) (nwR (sn_112 hw) nw0)) nw0) (nwR (sn_113 hw) nw0)) nw0) (nwR (sn_114 hw) nw0)) nw0) (nwR (sn_115 hw) nw0)) nw0) (nwR (sn_116 hw) nw0))
 have f87 := (kExa K82 f81)
 obtain ⟨T88, h88, X88, e88, W88, st88⟩ := putF X84 hx hZ hown (host := "") (Or.inl (w185 hw)) Via.refl e84 f86 f87 (Or.inl (w186 hw)) (w32 hw) (ty := (.object "java/util/List")) (by decide) rfl rfl (g := (mkF m 123 #[vr o0] [(.ref o_83), (.ref o0)])) rfl rfl (hb hby d274)
 have K88 := KL.ofW W88
 have Fw88 : Fd18 Z h88 o0 (.ref o_83) := Fld.same W88 f86
 have N88 := Fr.snoc X88 N84 g_o0
 have f90 := (kOld K88 f85 (naG g_o0 na0))
 have sz_0_26 := (Nat.le_trans sz_0_25 K88.1)
 obtain ⟨_, T89, L89, X89, hQ89, st89⟩ := own_static X88 hx hZ hown (w179 hw) (w180 hw) (w181 hw) (w182 hw) (by decide) (r19_of l Z a0 hw [] o_83 h88 n0 (Nat.le_trans Z0 sz_0_26) S_EMPTY_LIST f90) e88 (W := 1) (by decide) (g := (mkF m 127 #[vr o0] [(.ref o0)])) rfl hml.symm (argsL := []) (rest := [(.ref o0)]) (lenOf pd_12 rfl) rfl rfl (own_wr rfl rfl) (hb hby d276)
 obtain ⟨rfl, N89q, e89⟩ := hQ89
 have N89 := Fr.app N88 N89q
 have f91 := (kFld K88 (kFld K82 (kFld K78 (kFld K75 (kFld K71 (kFld K68 (kFld K64 (kFld K59 (kFld K55 (kFld K49 (kFld K43 (kFld K42 (kFld K41 (kFld K35 (kFld K34 (kFld K33 (kFld K28 (kFld K27 (kFld K26 (kFld K20 (kFld K17 (kFld K11 (kFld K9 (kFld K8 (kFld K5 (kFld K2 F_o0_outers (nwR (sn_117 hw) nw0)) (nwR (sn_118 hw) nw0)) (nwR (sn_119 hw) nw0)) nw0) (nwL ne14 (nwL ne14 nw0))) (nwR (sn_120 hw) nw0)) (nwR (sn_121 hw) nw0)) (nwR (sn_122 hw) nw0)) nw0) (nwM 3 rfl ne30 nw0)) (nwR (sn_123 hw) nw0)) nw0) (nwL ne38 (nwL ne38 nw0))) (nwR (sn_124 hw) nw0)) nw0) (nwL ne46 (nwL ne46 nw0))) (nwR (sn_125 hw) nw0)) nw0) (nwR (sn_126 hw) nw0)) nw0) (nwR (sn_127 hw) nw0)) nw0) (nwR (sn_128 hw) nw0)) nw0) (nwR (sn_129 hw) nw0)) (nwR (sn_130 hw) nw0))
 have f92 := (kExa K88 f87)
 obtain ⟨T93, h93, X93, e93, W93, st93⟩ := putF X89 hx hZ hown (host := "") (Or.inl (w187 hw)) Via.refl e89 f91 f92 (Or.inl (w188 hw)) (w32 hw) (ty := (.object "java/util/List")) (by decide) rfl rfl (g := (mkF m 130 #[vr o0] [(.ref o_83), (.ref o0)])) rfl rfl (hb hby d277)
 have K93 := KL.ofW W93
 have Fw93 : Fd19 Z h93 o0 (.ref o_83) := Fld.same W93 f91
 have N93 := Fr.snoc X93 N89 g_o0
 have C0 := (KL.refl h0 (WS_r12__init_ Z o0)).trans K2 (naO (own_mi 0 rfl) na0)
 have C1 := C0.trans K5 (naO (own_mi 1 rfl) na0)
 have C2 := C1.trans K8 (naO (own_mi 2 rfl) na0)
 have C3 := C2.trans K9 na0
 have C4 := C3.trans K11 (naO (Or.inr (Nat.le_trans sz_0_3 ge_b9)) (naO (Or.inr (Nat.le_trans sz_0_3 ge_b9)) na0))
 have C5 := C4.trans K17 (naO (own_mi 3 rfl) na0)
 have C6 := C5.trans K20 (naO (own_mi 4 rfl) na0)
 have C7 := C6.trans K26 (naO (own_mi 5 rfl) na0)
 have C8 := C7.trans K27 na0
 have C9 := C8.trans K28 (naOM 3 rfl (Nat.le_trans sz_0_8 ge_b27) na0)
 have C10 := C9.trans K33 (naO (own_mi 6 rfl) na0)
 have C11 := C10.trans K34 na0
 have C12 := C11.trans K35 (naO (Or.inr (Nat.le_trans sz_0_11 ge_b34)) (naO (Or.inr (Nat.le_trans sz_0_11 ge_b34)) na0))
 have C13 := C12.trans K41 (naO (own_mi 7 rfl) na0)
 have C14 := C13.trans K42 na0
 have C15 := C14.trans K43 (naO (Or.inr (Nat.le_trans sz_0_14 ge_b42)) (naO (Or.inr (Nat.le_trans sz_0_14 ge_b42)) na0))
 have C16 := C15.trans K49 (naO (own_mi 8 rfl) na0)
 have C17 := C16.trans K55 na0
 have C18 := C17.trans K59 (naO (own_mi 9 rfl) na0)
 have C19 := C18.trans K64 na0
 have C20 := C19.trans K68 (naO (own_mi 10 rfl) na0)
 have C21 := C20.trans K71 na0
 have C22 := C21.trans K75 (naO (own_mi 11 rfl) na0)
 have C23 := C22.trans K78 na0
 have C24 := C23.trans K82 (naO (own_mi 12 rfl) na0)
 have C25 := C24.trans K88 (naO (own_mi 13 rfl) na0)
 have C26 := C25.trans K93 (naO (own_mi 14 rfl) na0)
 have lt_b9 : b9 < h9.size := Exa.lt A9
 have sz_4_6 := (Nat.le_trans K11.1 K17.1)
 have sz_4_7 := (Nat.le_trans sz_4_6 K20.1)
 have sz_4_8 := (Nat.le_trans sz_4_7 K26.1)
 have sz_4_9 := (Nat.le_trans sz_4_8 K27.1)
 have sz_4_10 := (Nat.le_trans sz_4_9 K28.1)
 have sz_4_11 := (Nat.le_trans sz_4_10 K33.1)
 have sz_4_12 := (Nat.le_trans sz_4_11 K34.1)
 have sz_4_13 := (Nat.le_trans sz_4_12 K35.1)
 have sz_4_14 := (Nat.le_trans sz_4_13 K41.1)
 have sz_4_15 := (Nat.le_trans sz_4_14 K42.1)
 have sz_4_16 := (Nat.le_trans sz_4_15 K43.1)
 have sz_4_17 := (Nat.le_trans sz_4_16 K49.1)
 have sz_4_18 := (Nat.le_trans sz_4_17 K55.1)
 have sz_4_19 := (Nat.le_trans sz_4_18 K59.1)
 have sz_4_20 := (Nat.le_trans sz_4_19 K64.1)
 have sz_4_21 := (Nat.le_trans sz_4_20 K68.1)
 have sz_4_22 := (Nat.le_trans sz_4_21 K71.1)
 have sz_4_23 := (Nat.le_trans sz_4_22 K75.1)
 have sz_4_24 := (Nat.le_trans sz_4_23 K78.1)
 have sz_4_25 := (Nat.le_trans sz_4_24 K82.1)
 have sz_4_26 := (Nat.le_trans sz_4_25 K88.1)
 have sz_4_27 := (Nat.le_trans sz_4_26 K93.1)
 have lt_b27 : b27 < h27.size := Exa.lt A27
 have sz_9_11 := (Nat.le_trans K28.1 K33.1)
 have sz_9_12 := (Nat.le_trans sz_9_11 K34.1)
 have sz_9_13 := (Nat.le_trans sz_9_12 K35.1)
 have sz_9_14 := (Nat.le_trans sz_9_13 K41.1)
 have sz_9_15 := (Nat.le_trans sz_9_14 K42.1)
 have sz_9_16 := (Nat.le_trans sz_9_15 K43.1)
 have sz_9_17 := (Nat.le_trans sz_9_16 K49.1)
 have sz_9_18 := (Nat.le_trans sz_9_17 K55.1)
 have sz_9_19 := (Nat.le_trans sz_9_18 K59.1)
 have sz_9_20 := (Nat.le_trans sz_9_19 K64.1)
 have sz_9_21 := (Nat.le_trans sz_9_20 K68.1)
 have sz_9_22 := (Nat.le_trans sz_9_21 K71.1)
 have sz_9_23 := (Nat.le_trans sz_9_22 K75.1)
 have sz_9_24 := (Nat.le_trans sz_9_23 K78.1)
 have sz_9_25 := (Nat.le_trans sz_9_24 K82.1)
 have sz_9_26 := (Nat.le_trans sz_9_25 K88.1)
 have sz_9_27 := (Nat.le_trans sz_9_26 K93.1)
 have lt_b34 : b34 < h34.size := Exa.lt A34
 have sz_12_14 := (Nat.le_trans K35.1 K41.1)
 have sz_12_15 := (Nat.le_trans sz_12_14 K42.1)
 have sz_12_16 := (Nat.le_trans sz_12_15 K43.1)
 have sz_12_17 := (Nat.le_trans sz_12_16 K49.1)
 have sz_12_18 := (Nat.le_trans sz_12_17 K55.1)
 have sz_12_19 := (Nat.le_trans sz_12_18 K59.1)
 have sz_12_20 := (Nat.le_trans sz_12_19 K64.1)
 have sz_12_21 := (Nat.le_trans sz_12_20 K68.1)
 have sz_12_22 := (Nat.le_trans sz_12_21 K71.1)
 have sz_12_23 := (Nat.le_trans sz_12_22 K75.1)
 have sz_12_24 := (Nat.le_trans sz_12_23 K78.1)
 have sz_12_25 := (Nat.le_trans sz_12_24 K82.1)
 have sz_12_26 := (Nat.le_trans sz_12_25 K88.1)
 have sz_12_27 := (Nat.le_trans sz_12_26 K93.1)
 have lt_b42 : b42 < h42.size := Exa.lt A42
 have sz_15_17 := (Nat.le_trans K43.1 K49.1)
 have sz_15_18 := (Nat.le_trans sz_15_17 K55.1)
 have sz_15_19 := (Nat.le_trans sz_15_18 K59.1)
 have sz_15_20 := (Nat.le_trans sz_15_19 K64.1)
 have sz_15_21 := (Nat.le_trans sz_15_20 K68.1)
 have sz_15_22 := (Nat.le_trans sz_15_21 K71.1)
 have sz_15_23 := (Nat.le_trans sz_15_22 K75.1)
 have sz_15_24 := (Nat.le_trans sz_15_23 K78.1)
 have sz_15_25 := (Nat.le_trans sz_15_24 K82.1)
 have sz_15_26 := (Nat.le_trans sz_15_25 K88.1)
 have sz_15_27 := (Nat.le_trans sz_15_26 K93.1)
 have sz_18_20 := (Nat.le_trans K59.1 K64.1)
 have sz_18_21 := (Nat.le_trans sz_18_20 K68.1)
 have sz_18_22 := (Nat.le_trans sz_18_21 K71.1)
 have sz_18_23 := (Nat.le_trans sz_18_22 K75.1)
 have sz_18_24 := (Nat.le_trans sz_18_23 K78.1)
 have sz_18_25 := (Nat.le_trans sz_18_24 K82.1)
 have sz_18_26 := (Nat.le_trans sz_18_25 K88.1)
 have sz_18_27 := (Nat.le_trans sz_18_26 K93.1)
 have sz_20_22 := (Nat.le_trans K68.1 K71.1)
 have sz_20_23 := (Nat.le_trans sz_20_22 K75.1)
 have sz_20_24 := (Nat.le_trans sz_20_23 K78.1)
 have sz_20_25 := (Nat.le_trans sz_20_24 K82.1)
 have sz_20_26 := (Nat.le_trans sz_20_25 K88.1)
 have sz_20_27 := (Nat.le_trans sz_20_26 K93.1)
 have sz_22_24 := (Nat.le_trans K75.1 K78.1)
 have sz_22_25 := (Nat.le_trans sz_22_24 K82.1)
 have sz_22_26 := (Nat.le_trans sz_22_25 K88.1)
 have sz_22_27 := (Nat.le_trans sz_22_26 K93.1)
 have sz_24_26 := (Nat.le_trans K82.1 K88.1)
 have sz_24_27 := (Nat.le_trans sz_24_26 K93.1)
 have f94 := (kFld K93 (kFld K88 (kFld K82 (kFld K78 (kFld K75 (kFld K71 (kFld K68 (kFld K64 (kFld K59 (kFld K55 (kFld K49 (kFld K43 (kFld K42 (kFld K41 (kFld K35 (kFld K34 (kFld K33 (kFld K28 (kFld K27 (kFld K26 (kFld K20 (kFld K17 (kFld K11 (kFld K9 (kFld K8 (kFld K5 Fw2 (nwR (sn_131 hw) nw0)) (nwR (sn_132 hw) nw0)) nw0) (nwL ne14 (nwL ne14 nw0))) (nwR (sn_133 hw) nw0)) (nwR (sn_134 hw) nw0)) (nwR (sn_135 hw) nw0)) nw0) (nwM 3 rfl ne30 nw0)) (nwR (sn_136 hw) nw0)) nw0) (nwL ne38 (nwL ne38 nw0))) (nwR (sn_137 hw) nw0)) nw0) (nwL ne46 (nwL ne46 nw0))) (nwR (sn_138 hw) nw0)) nw0) (nwR (sn_139 hw) nw0)) nw0) (nwR (sn_140 hw) nw0)) nw0) (nwR (sn_141 hw) nw0)) nw0) (nwR (sn_142 hw) nw0)) (nwR (sn_143 hw) nw0)) (nwR (sn_144 hw) nw0))
 have f95 := (kFld K93 (kFld K88 (kFld K82 (kFld K78 (kFld K75 (kFld K71 (kFld K68 (kFld K64 (kFld K59 (kFld K55 (kFld K49 (kFld K43 (kFld K42 (kFld K41 (kFld K35 (kFld K34 (kFld K33 (kFld K28 (kFld K27 (kFld K26 (kFld K20 (kFld K17 (kFld K11 (kFld K9 (kFld K8 Fw5 (nwR (sn_145 hw) nw0)) nw0) (nwL ne14 (nwL ne14 nw0))) (nwR (sn_146 hw) nw0)) (nwR (sn_147 hw) nw0)) (nwR (sn_148 hw) nw0)) nw0) (nwM 3 rfl ne30 nw0)) (nwR (sn_149 hw) nw0)) nw0) (nwL ne38 (nwL ne38 nw0))) (nwR (sn_150 hw) nw0)) nw0) (nwL ne46 (nwL ne46 nw0))) (nwR (sn_151 hw) nw0)) nw0) (nwR (sn_152 hw) nw0)) nw0) (nwR (sn_153 hw) nw0)) nw0) (nwR (sn_154 hw) nw0)) nw0) (nwR (sn_155 hw) nw0)) (nwR (sn_156 hw) nw0)) (nwR (sn_157 hw) nw0))
 have f96 := (kFld K93 (kFld K88 (kFld K82 (kFld K78 (kFld K75 (kFld K71 (kFld K68 (kFld K64 (kFld K59 (kFld K55 (kFld K49 (kFld K43 (kFld K42 (kFld K41 (kFld K35 (kFld K34 (kFld K33 (kFld K28 (kFld K27 (kFld K26 (kFld K20 (kFld K17 (kFld K11 (kFld K9 Fw8 nw0) (nwL ne14 (nwL ne14 nw0))) (nwR (sn_158 hw) nw0)) (nwR (sn_159 hw) nw0)) (nwR (sn_160 hw) nw0)) nw0) (nwM 3 rfl ne30 nw0)) (nwR (sn_161 hw) nw0)) nw0) (nwL ne38 (nwL ne38 nw0))) (nwR (sn_162 hw) nw0)) nw0) (nwL ne46 (nwL ne46 nw0))) (nwR (sn_163 hw) nw0)) nw0) (nwR (sn_164 hw) nw0)) nw0) (nwR (sn_165 hw) nw0)) nw0) (nwR (sn_166 hw) nw0)) nw0) (nwR (sn_167 hw) nw0)) (nwR (sn_168 hw) nw0)) (nwR (sn_169 hw) nw0))
 have f97 := (kFld K93 (kFld K88 (kFld K82 (kFld K78 (kFld K75 (kFld K71 (kFld K68 (kFld K64 (kFld K59 (kFld K55 f50 nw0) (nwR (sn_170 hw) nw0)) nw0) (nwR (sn_171 hw) nw0)) nw0) (nwR (sn_172 hw) nw0)) nw0) (nwR (sn_173 hw) nw0)) (nwR (sn_174 hw) nw0)) (nwR (sn_175 hw) nw0))
 have f98 := (kFld K93 (kFld K88 (kFld K82 (kFld K78 (kFld K75 (kFld K71 (kFld K68 (kFld K64 (kFld K59 (kFld K55 (kFld K49 (kFld K43 (kFld K42 (kFld K41 (kFld K35 (kFld K34 (kFld K33 (kFld K28 (kFld K27 (kFld K26 Fw20 (nwR (sn_176 hw) nw0)) nw0) (nwM 3 rfl ne30 nw0)) (nwR (sn_177 hw) nw0)) nw0) (nwL ne38 (nwL ne38 nw0))) (nwR (sn_178 hw) nw0)) nw0) (nwL ne46 (nwL ne46 nw0))) (nwR (sn_179 hw) nw0)) nw0) (nwR (sn_180 hw) nw0)) nw0) (nwR (sn_181 hw) nw0)) nw0) (nwR (sn_182 hw) nw0)) nw0) (nwR (sn_183 hw) nw0)) (nwR (sn_184 hw) nw0)) (nwR (sn_185 hw) nw0))
 have f99 := (kFld K93 (kFld K88 (kFld K82 (kFld K78 (kFld K75 (kFld K71 (kFld K68 (kFld K64 (kFld K59 (kFld K55 (kFld K49 (kFld K43 (kFld K42 (kFld K41 (kFld K35 (kFld K34 (kFld K33 (kFld K28 (kFld K27 Fw26 nw0) (nwM 3 rfl ne30 nw0)) (nwR (sn_186 hw) nw0)) nw0) (nwL ne38 (nwL ne38 nw0))) (nwR (sn_187 hw) nw0)) nw0) (nwL ne46 (nwL ne46 nw0))) (nwR (sn_188 hw) nw0)) nw0) (nwR (sn_189 hw) nw0)) nw0) (nwR (sn_190 hw) nw0)) nw0) (nwR (sn_191 hw) nw0)) nw0) (nwR (sn_192 hw) nw0)) (nwR (sn_193 hw) nw0)) (nwR (sn_194 hw) nw0))
 have f100 := (kFld K93 (kFld K88 (kFld K82 (kFld K78 (kFld K75 (kFld K71 (kFld K68 (kFld K64 f60 nw0) (nwR (sn_195 hw) nw0)) nw0) (nwR (sn_196 hw) nw0)) nw0) (nwR (sn_197 hw) nw0)) (nwR (sn_198 hw) nw0)) (nwR (sn_199 hw) nw0))
 have f101 := (kFld K93 (kFld K88 (kFld K82 (kFld K78 (kFld K75 (kFld K71 f69 nw0) (nwR (sn_200 hw) nw0)) nw0) (nwR (sn_201 hw) nw0)) (nwR (sn_202 hw) nw0)) (nwR (sn_203 hw) nw0))
 have f102 := (kFld K93 (kFld K88 (kFld K82 (kFld K78 f76 nw0) (nwR (sn_204 hw) nw0)) (nwR (sn_205 hw) nw0)) (nwR (sn_206 hw) nw0))
 have f103 := (kFld K93 (kFld K88 (kFld K82 (kFld K78 (kFld K75 (kFld K71 (kFld K68 (kFld K64 Fw59 nw0) (nwR (sn_207 hw) nw0)) nw0) (nwR (sn_208 hw) nw0)) nw0) (nwR (sn_209 hw) nw0)) (nwR (sn_210 hw) nw0)) (nwR (sn_211 hw) nw0))
 have f104 := (kFld K93 (kFld K88 (kFld K82 (kFld K78 (kFld K75 (kFld K71 Fw68 nw0) (nwR (sn_212 hw) nw0)) nw0) (nwR (sn_213 hw) nw0)) (nwR (sn_214 hw) nw0)) (nwR (sn_215 hw) nw0))
 have f105 := (kFld K93 (kFld K88 (kFld K82 (kFld K78 Fw75 nw0) (nwR (sn_216 hw) nw0)) (nwR (sn_217 hw) nw0)) (nwR (sn_218 hw) nw0))
 have f106 := (kFld K93 (kFld K88 Fw82 (nwR (sn_219 hw) nw0)) (nwR (sn_220 hw) nw0))
 have f107 := (kFld K93 Fw88 (nwR (sn_221 hw) nw0))
 refine ⟨T93, _, none, X93, (fun h => by cases h <;> rfl), ?_, fun fs hr => ?_⟩
 · show Q_r12__init_ Z o0 o_10 o_21 o_52 o_53 o_54 o_62 o_63 o_83 h0 n0 _ T93.heap _
   rw [e93]
   exact ⟨b9, b27, b34, b42, r_55, r_64, r_71, r_78, rfl, N93, C26, (Nat.lt_of_lt_of_le lt_b9 sz_4_27), (Nat.lt_of_lt_of_le lt_b27 sz_9_27), (Nat.lt_of_lt_of_le lt_b34 sz_12_27), (Nat.lt_of_lt_of_le lt_b42 sz_15_27), (Nat.lt_of_lt_of_le Q55_0 sz_18_27), (Nat.lt_of_lt_of_le Q64_0 sz_20_27), (Nat.lt_of_lt_of_le Q71_0 sz_22_27), (Nat.lt_of_lt_of_le Q78_0 sz_24_27), f94, f95, f96, f97, f98, f99, f100, f101, f102, f103, f104, f105, f106, f107, Fw93⟩
 refine t_aloadN 1 X0.here hx hby d180 rfl rfl rfl ?_
 refine st1 _ ?_
 refine t_aloadN 5 X1.here hx hby d182 rfl rfl rfl ?_
 refine t_iconst 6 (r := 1) X1.here hx hby d183 (by decide) rfl ?_
 refine st2 _ ?_
 refine t_aloadN 10 X2.here hx hby d185 rfl rfl rfl ?_
 refine t_iconst 11 (r := 1) X2.here hx hby d186 (by decide) rfl ?_
 refine st5 _ ?_
 refine t_aloadN 15 X5.here hx hby d188 rfl rfl rfl ?_
 refine t_iconst 16 (r := 1) X5.here hx hby d189 (by decide) rfl ?_
 refine st8 _ ?_
 refine t_aloadN 20 X8.here hx hby d191 rfl rfl rfl ?_
 refine st9 _ ?_
 refine t_dup 24 X9.here hx hby d193 rfl rfl ?_
 refine st11 _ ?_
 refine st17 _ ?_
 refine t_aloadN 31 X17.here hx hby d211 rfl rfl rfl ?_
 refine t_iconst 32 (r := 1) X17.here hx hby d212 (by decide) rfl ?_
 refine st20 _ ?_
 refine t_aloadN 36 X20.here hx hby d214 rfl rfl rfl ?_
 refine st23 _ ?_
 refine st26 _ ?_
 refine t_aloadN 43 X26.here hx hby d217 rfl rfl rfl ?_
 refine st27 _ ?_
 refine t_dup 47 X27.here hx hby d219 rfl rfl ?_
 refine st28 _ ?_
 refine st33 _ ?_
 refine t_aloadN 54 X33.here hx hby d240 rfl rfl rfl ?_
 refine st34 _ ?_
 refine t_dup 58 X34.here hx hby d242 rfl rfl ?_
 refine st35 _ ?_
 refine st41 _ ?_
 refine t_aloadN 65 X41.here hx hby d245 rfl rfl rfl ?_
 refine st42 _ ?_
 refine t_dup 69 X42.here hx hby d247 rfl rfl ?_
 refine st43 _ ?_
 refine st49 _ ?_
 refine t_aloadN 76 X49.here hx hby d250 rfl rfl rfl ?_
 refine t_aloadN 77 X49.here hx hby d251 rfl rfl rfl ?_
 refine st51 _ ?_
 refine st55 _ ?_
 refine st59 _ ?_
 refine t_aloadN 87 X59.here hx hby d255 rfl rfl rfl ?_
 refine t_aloadN 88 X59.here hx hby d256 rfl rfl rfl ?_
 refine st61 _ ?_
 refine st64 _ ?_
 refine st68 _ ?_
 refine t_aloadN 98 X68.here hx hby d260 rfl rfl rfl ?_
 refine t_aloadN 99 X68.here hx hby d261 rfl rfl rfl ?_
 refine st70 _ ?_
 refine st71 _ ?_
 refine st75 _ ?_
 refine t_aloadN 109 X75.here hx hby d265 rfl rfl rfl ?_
 refine t_aloadN 110 X75.here hx hby d266 rfl rfl rfl ?_
 refine st77 _ ?_
 refine st78 _ ?_
 refine st82 _ ?_
 refine t_aloadN 120 X82.here hx hby d270 rfl rfl rfl ?_
 refine st84 _ ?_
 refine st88 _ ?_
 refine t_aloadN 127 X88.here hx hby d275 rfl rfl rfl ?_
 refine st89 _ ?_
 refine st93 _ ?_
 exact X93.returnOut hx hret (hb hby d278) hr
def w36 (hw : HW Z a0) := ow 36 hw rfl
def w35 (hw : HW Z a0) := ow 35 hw rfl
def w328 (hw : HW Z a0) := ow 328 hw rfl
def w319 (hw : HW Z a0) := ow 319 hw rfl
abbrev b21_ := prog_7_method_15_code
theorem d279 : decode b21_ 0 = .ok (.aload_n 0, 1) := by decide +kernel
theorem d280 : decode b21_ 1 = .ok (.getfield 146, 3) := by decide +kernel
def w321 (hw : HW Z a0) := ow 321 hw rfl
theorem d281 : decode b21_ 4 = .ok (.ifnull 11, 3) := by decide +kernel
theorem d282 : decode b21_ 15 = .ok (.aload_n 0, 1) := by decide +kernel
theorem d283 : decode b21_ 16 = .ok (.getfield 110, 3) := by decide +kernel
def w309 (hw : HW Z a0) := ow 309 hw rfl
theorem d284 : decode b21_ 19 = .ok (.ifnonnull 9, 3) := by decide +kernel
theorem d285 : decode b21_ 22 = .ok (.ldc 149, 2) := by decide +kernel
def w315 (hw : HW Z a0) := ow 315 hw rfl
def w336 (hw : HW Z a0) := ow 336 hw rfl
def w329 (hw : HW Z a0) := ow 329 hw rfl
def w341 (hw : HW Z a0) := ow 341 hw rfl
def w258 (hw : HW Z a0) := ow 258 hw rfl
theorem own_EW {Z : State} {a0 : Array Value} (hw : HW Z a0) : EW Z a0 consts_1 := (EW.cons (w258 hw) (by decide) (EW.cons (w315 hw) (by decide) (EW.cons (w341 hw) (by decide) (EW.cons (w329 hw) (by decide) (EW.cons (w336 hw) (by decide) (fun p hp => nomatch hp))))))
def w259 (hw : HW Z a0) := ow 259 hw rfl
def w260 (hw : HW Z a0) := ow 260 hw rfl
theorem own_wS {Z : State} {a0 : Array Value} (hw : HW Z a0) : ∀ a ∈ Bundle.stringAtoms, a.before a0 Z = true := fun a ha => by
  simp only [Bundle.stringAtoms, List.mem_cons, List.not_mem_nil, or_false] at ha
  rcases ha with rfl | rfl | rfl | rfl | rfl | rfl | rfl
  all_goals first | exact (w3 hw) | exact (w4 hw) | exact (w20 hw) | exact (w30 hw) | exact (w28 hw) | exact (w259 hw) | exact (w260 hw)
theorem d286 : decode b21_ 24 = .ok (.astore_n 1, 1) := by decide +kernel
theorem d287 : decode b21_ 25 = .ok (.goto 5, 3) := by decide +kernel
theorem d288 : decode b21_ 30 = .ok (.aload_n 1, 1) := by decide +kernel
theorem d289 : decode b21_ 31 = .ok (.areturn, 1) := by decide +kernel
theorem ef_8 (x0 : Addr) (m : MethodId) : entryFrame m #[(.ref x0)] 2 = mkF m 0 #[.val (.ref x0), .unset] [] := by first | (simp [entryFrame, mkF, argsToLocals, Value.category]; done) | rfl
abbrev y21_getScope : MethodName := ⟨"com/example/graft_container/graftcontainer/BeanDefinition", "getScope", "()Ljava/lang/String;"⟩
def Q_r20_getScope (Z : State) (o0 : Addr) (h0 : Heap) (n0 : Nat) (v : Option Value) (h : Heap) (L : List Loc) : Prop := ∃ c3 : Addr, ∃ b3 : Addr, ∃ kb3 : ClassId, v = some (.ref c3) ∧ Fr n0 L ∧ KL h0 h [] ∧ c3 < h.size ∧ b3 < h.size ∧ Ex4 Z h c3 ∧ Fd3 Z h c3 z0 ∧ Fd4 Z h c3 (.ref b3) ∧ Arv Z h b3 kb3 .byte 9 [(.int 115), (.int 105), (.int 110), (.int 103), (.int 108), (.int 101), (.int 116), (.int 111), (.int 110)] z0
theorem r20_getScope (l : Launch) (Z : State) (a0 : Array Value) (hw : HW Z a0) (ws : List Jvm.Cond) (o0 : Addr) (h0 : Heap) (n0 : Nat) (Z0 : n0 ≤ h0.size) (F_o0_scope : Fd22 Z h0 o0 .null) (F_o0_parentName : Fd21 Z h0 o0 .null) :
    OMH l Z consts_1 [] y21_getScope b21_ 2 (some (.object "java/lang/String")) ws ⟨0, 2, 40, 0⟩ #[(.ref o0)] h0 (Q_r20_getScope Z o0 h0 n0) := by
 refine own_bodyH (k := 2) (n := 40) (own_EW hw) (plainFor_of_name pn_BeanDefinition762) (ef_8 o0) (by decide) (by decide) ?_
 intro p e s m below meth c s₁ hx hby hml hown hnm hret hZ e0 hS0 hk0 X0 hC0 hSF0
 have N0 := Fr.nil n0
 obtain ⟨T1, X1, e1, st1⟩ := getF X0 hx hZ hown (host := "") (Or.inl (w321 hw)) Via.refl e0 F_o0_scope (g := (mkF m 1 #[vr o0, .unset] [(.ref o0)])) rfl rfl (hb hby d280)
 obtain ⟨T2, X2, e2, st2⟩ := getF X1 hx hZ hown (host := "") (Or.inl (w309 hw)) Via.refl e1 F_o0_parentName (g := (mkF m 16 #[vr o0, .unset] [(.ref o0)])) rfl rfl (hb hby d283)
 obtain ⟨c3, T3, h3, k3, b3, kb3, X3, e3, E3, hS3, hk3, hZ3, hown3, Ex3, Fc3, Fv3, Ar3, lta3, ltb3, hC3, Lt3, hne3, st3⟩ := ldcCH X2 hx hZ hown (w315 hw) (own_wS hw) e2 hS0 hk0 (own_EW hw) (by decide) (CHr.refl hC0).1 (vs := [(.int 115), (.int 105), (.int 110), (.int 103), (.int 108), (.int 101), (.int 116), (.int 111), (.int 110)]) (z := 9) ⟨by decide, rfl⟩ (by decide) rfl (g := (mkF m 22 #[vr o0, .unset] [])) rfl (hb hby d285) (n := 36) (by decide) (by decide) (by decide) (by decide)
 have K3 := KL.ofE E3
 have Ah1 := (CHr.refl hC0).trans hC3
 have C0 := (KL.refl h0 []).trans K3 na0
 refine ⟨T3, _, some (.ref c3), _, _, X3, hS3, (by rw [e3]; exact hk3), (fun h => by cases h <;> rfl), ?_, (by rw [e3]; exact Ah1), hZ3, fun fs hr => ?_⟩
 · show Q_r20_getScope Z o0 h0 n0 _ T3.heap _
   rw [e3]
   exact ⟨c3, b3, kb3, rfl, N0, C0, lta3, ltb3, Ex3, Fc3, Fv3, Ar3⟩
 refine t_aloadN 1 X0.here hx hby d279 rfl rfl rfl ?_
 refine st1 _ ?_
 refine t_ifnullYes (pc := 4) 15 X1.here hx hby d281 (by decide) (by decide) ?_
 refine t_aloadN 16 X1.here hx hby d282 rfl rfl rfl ?_
 refine st2 _ ?_
 refine t_ifnonnullNo 22 X2.here hx hby d284 rfl ?_
 refine st3 _ ?_
 refine t_astoreN (pc' := 25) (L' := #[vr o0, vr c3]) X3.here hx hby d286 rfl rfl rfl ?_
 refine t_goto (pc := 25) 30 X3.here hx hby d287 (by decide) (by decide) ?_
 refine t_aloadN 31 X3.here hx hby d288 rfl rfl rfl ?_
 jvm_step X3.here [X3.here.top, hx, (hb hby d289), X3.method', hret, Value.isRef, FieldType.isReference]
 first | (intro acts; rw [hr _ acts rfl rfl rfl]) | rw [hr _ _ rfl rfl rfl]
 exact Steps.refl _
abbrev ft6_ : FieldType := .object "java/lang/String"
theorem sn_222 (hw : HW Z a0) : sl22 Z ≠ sl19 Z := slot_ne (a0 := a0) (Or.inl (w322 hw)) (Or.inl (w188 hw)) (by decide) (t := ft6_) (t' := ft0_) (by decide) (by decide)
theorem sn_223 (hw : HW Z a0) : sl22 Z ≠ sl18 Z := slot_ne (a0 := a0) (Or.inl (w322 hw)) (Or.inl (w186 hw)) (by decide) (t := ft6_) (t' := ft0_) (by decide) (by decide)
theorem sn_224 (hw : HW Z a0) : sl22 Z ≠ sl17 Z := slot_ne (a0 := a0) (Or.inl (w322 hw)) (Or.inr (w178 hw)) (by decide) (t := ft6_) (t' := ft0_) (by decide) (by decide)
theorem sn_225 (hw : HW Z a0) : sl22 Z ≠ sl16 Z := slot_ne (a0 := a0) (Or.inl (w322 hw)) (Or.inr (w176 hw)) (by decide) (t := ft6_) (t' := ft0_) (by decide) (by decide)
theorem sn_226 (hw : HW Z a0) : sl22 Z ≠ sl15 Z := slot_ne (a0 := a0) (Or.inl (w322 hw)) (Or.inr (w174 hw)) (by decide) (t := ft6_) (t' := ft5_) (by decide) (by decide)
theorem sn_227 (hw : HW Z a0) : sl22 Z ≠ sl14 Z := slot_ne (a0 := a0) (Or.inl (w322 hw)) (Or.inr (w153 hw)) (by decide) (t := ft6_) (t' := ft0_) (by decide) (by decide)
theorem sn_228 (hw : HW Z a0) : sl22 Z ≠ sl13 Z := slot_ne (a0 := a0) (Or.inl (w322 hw)) (Or.inr (w108 hw)) (by decide) (t := ft6_) (t' := ft0_) (by decide) (by decide)
theorem sn_229 (hw : HW Z a0) : sl22 Z ≠ sl12 Z := slot_ne (a0 := a0) (Or.inl (w322 hw)) (Or.inr (w106 hw)) (by decide) (t := ft6_) (t' := ft0_) (by decide) (by decide)
theorem sn_230 (hw : HW Z a0) : sl22 Z ≠ sl11 Z := slot_ne (a0 := a0) (Or.inl (w322 hw)) (Or.inr (w104 hw)) (by decide) (t := ft6_) (t' := ft5_) (by decide) (by decide)
theorem sn_231 (hw : HW Z a0) : sl22 Z ≠ sl10 Z := slot_ne (a0 := a0) (Or.inl (w322 hw)) (Or.inl (w76 hw)) (by decide) (t := ft6_) (t' := ft4_) (by decide) (by decide)
theorem sn_232 (hw : HW Z a0) : sl22 Z ≠ sl9 Z := slot_ne (a0 := a0) (Or.inl (w322 hw)) (Or.inl (w71 hw)) (by decide) (t := ft6_) (t' := .boolean) (by decide) (by decide)
theorem sn_233 (hw : HW Z a0) : sl22 Z ≠ sl8 Z := slot_ne (a0 := a0) (Or.inl (w322 hw)) (Or.inr (w69 hw)) (by decide) (t := ft6_) (t' := ft0_) (by decide) (by decide)
theorem sn_234 (hw : HW Z a0) : sl22 Z ≠ sl7 Z := slot_ne (a0 := a0) (Or.inl (w322 hw)) (Or.inl (w43 hw)) (by decide) (t := ft6_) (t' := .boolean) (by decide) (by decide)
theorem sn_235 (hw : HW Z a0) : sl22 Z ≠ sl6 Z := slot_ne (a0 := a0) (Or.inl (w322 hw)) (Or.inl (w41 hw)) (by decide) (t := ft6_) (t' := .boolean) (by decide) (by decide)
theorem sn_236 (hw : HW Z a0) : sl22 Z ≠ sl5 Z := slot_ne (a0 := a0) (Or.inl (w322 hw)) (Or.inl (w39 hw)) (by decide) (t := ft6_) (t' := .boolean) (by decide) (by decide)
theorem nwf_0 (hw : HW Z a0) (b : Addr) : (b, sl22 Z) ∉ WS_r12__init_ Z b := (nwR (sn_236 hw) (nwR (sn_235 hw) (nwR (sn_234 hw) (nwR (sn_233 hw) (nwR (sn_232 hw) (nwR (sn_231 hw) (nwR (sn_230 hw) (nwR (sn_229 hw) (nwR (sn_228 hw) (nwR (sn_227 hw) (nwR (sn_226 hw) (nwR (sn_225 hw) (nwR (sn_224 hw) (nwR (sn_223 hw) (nwR (sn_222 hw) nw0)))))))))))))))
theorem sn_237 (hw : HW Z a0) : sl21 Z ≠ sl19 Z := slot_ne (a0 := a0) (Or.inl (w310 hw)) (Or.inl (w188 hw)) (by decide) (t := ft6_) (t' := ft0_) (by decide) (by decide)
theorem sn_238 (hw : HW Z a0) : sl21 Z ≠ sl18 Z := slot_ne (a0 := a0) (Or.inl (w310 hw)) (Or.inl (w186 hw)) (by decide) (t := ft6_) (t' := ft0_) (by decide) (by decide)
theorem sn_239 (hw : HW Z a0) : sl21 Z ≠ sl17 Z := slot_ne (a0 := a0) (Or.inl (w310 hw)) (Or.inr (w178 hw)) (by decide) (t := ft6_) (t' := ft0_) (by decide) (by decide)
theorem sn_240 (hw : HW Z a0) : sl21 Z ≠ sl16 Z := slot_ne (a0 := a0) (Or.inl (w310 hw)) (Or.inr (w176 hw)) (by decide) (t := ft6_) (t' := ft0_) (by decide) (by decide)
theorem sn_241 (hw : HW Z a0) : sl21 Z ≠ sl15 Z := slot_ne (a0 := a0) (Or.inl (w310 hw)) (Or.inr (w174 hw)) (by decide) (t := ft6_) (t' := ft5_) (by decide) (by decide)
theorem sn_242 (hw : HW Z a0) : sl21 Z ≠ sl14 Z := slot_ne (a0 := a0) (Or.inl (w310 hw)) (Or.inr (w153 hw)) (by decide) (t := ft6_) (t' := ft0_) (by decide) (by decide)
theorem sn_243 (hw : HW Z a0) : sl21 Z ≠ sl13 Z := slot_ne (a0 := a0) (Or.inl (w310 hw)) (Or.inr (w108 hw)) (by decide) (t := ft6_) (t' := ft0_) (by decide) (by decide)
theorem sn_244 (hw : HW Z a0) : sl21 Z ≠ sl12 Z := slot_ne (a0 := a0) (Or.inl (w310 hw)) (Or.inr (w106 hw)) (by decide) (t := ft6_) (t' := ft0_) (by decide) (by decide)
theorem sn_245 (hw : HW Z a0) : sl21 Z ≠ sl11 Z := slot_ne (a0 := a0) (Or.inl (w310 hw)) (Or.inr (w104 hw)) (by decide) (t := ft6_) (t' := ft5_) (by decide) (by decide)
theorem sn_246 (hw : HW Z a0) : sl21 Z ≠ sl10 Z := slot_ne (a0 := a0) (Or.inl (w310 hw)) (Or.inl (w76 hw)) (by decide) (t := ft6_) (t' := ft4_) (by decide) (by decide)
theorem sn_247 (hw : HW Z a0) : sl21 Z ≠ sl9 Z := slot_ne (a0 := a0) (Or.inl (w310 hw)) (Or.inl (w71 hw)) (by decide) (t := ft6_) (t' := .boolean) (by decide) (by decide)
theorem sn_248 (hw : HW Z a0) : sl21 Z ≠ sl8 Z := slot_ne (a0 := a0) (Or.inl (w310 hw)) (Or.inr (w69 hw)) (by decide) (t := ft6_) (t' := ft0_) (by decide) (by decide)
theorem sn_249 (hw : HW Z a0) : sl21 Z ≠ sl7 Z := slot_ne (a0 := a0) (Or.inl (w310 hw)) (Or.inl (w43 hw)) (by decide) (t := ft6_) (t' := .boolean) (by decide) (by decide)
theorem sn_250 (hw : HW Z a0) : sl21 Z ≠ sl6 Z := slot_ne (a0 := a0) (Or.inl (w310 hw)) (Or.inl (w41 hw)) (by decide) (t := ft6_) (t' := .boolean) (by decide) (by decide)
theorem sn_251 (hw : HW Z a0) : sl21 Z ≠ sl5 Z := slot_ne (a0 := a0) (Or.inl (w310 hw)) (Or.inl (w39 hw)) (by decide) (t := ft6_) (t' := .boolean) (by decide) (by decide)
theorem nwf_1 (hw : HW Z a0) (b : Addr) : (b, sl21 Z) ∉ WS_r12__init_ Z b := (nwR (sn_251 hw) (nwR (sn_250 hw) (nwR (sn_249 hw) (nwR (sn_248 hw) (nwR (sn_247 hw) (nwR (sn_246 hw) (nwR (sn_245 hw) (nwR (sn_244 hw) (nwR (sn_243 hw) (nwR (sn_242 hw) (nwR (sn_241 hw) (nwR (sn_240 hw) (nwR (sn_239 hw) (nwR (sn_238 hw) (nwR (sn_237 hw) nw0)))))))))))))))
def w320 (hw : HW Z a0) := ow 320 hw rfl
theorem pd_13 : parseMethodDescriptor "()Ljava/lang/String;" = some ⟨[], some (.object "java/lang/String")⟩ := by decide +kernel
def w317 (hw : HW Z a0) := ow 317 hw rfl
def w318 (hw : HW Z a0) := ow 318 hw rfl
def w335 (hw : HW Z a0) := ow 335 hw rfl
def w326 (hw : HW Z a0) := ow 326 hw rfl
def w327 (hw : HW Z a0) := ow 327 hw rfl
theorem pd_14 : parseMethodDescriptor "(Ljava/lang/Object;)Z" = some ⟨[(.object "java/lang/Object")], some .boolean⟩ := by decide +kernel
def w324 (hw : HW Z a0) := ow 324 hw rfl
def w325 (hw : HW Z a0) := ow 325 hw rfl
def Q_law (n0 : Nat) (v : Option Value) (L : List Loc) : Prop := v = some (.int 1) ∧ Fr n0 L
theorem ef_law (p0 p1 p2 p3 : Int32) (m : MethodId) : entryFrame m #[(.int p0), (.int p1), (.int p2), (.int p3)] maxLocals = mkF m 0 #[.val (.int p0), .val (.int p1), .val (.int p2), .val (.int p3), .unset, .unset, .unset, .unset, .unset, .unset, .unset, .unset] [] := by first | (simp [entryFrame, mkF, argsToLocals, Value.category, maxLocals]; done) | rfl
theorem pn_BeanDefinitionGetScopePinLaw149 : plainName "com/example/graft_container/graftcontainer/BeanDefinitionGetScopePinLaw" = true := by first | (simp [plainName, overriddenIn]; done) | decide +kernel
abbrev LawM (l : Launch) (Z : State) (ws : List Jvm.Cond)  (p0 : Int32) (p1 : Int32) (p2 : Int32) (p3 : Int32) (h0 : Heap) (n0 : Nat) : Prop := MetFree l x (head1 (Jvm.Cond.code x code maxLocals ret :: ws) room_1) (fun a U => a = #[(.int p0), (.int p1), (.int p2), (.int p3)] ∧ Z.Warmed39 U.vm ∧ U.heap = h0 ∧ CHv Z consts_1 U.vm h0 ∧ ∀ x ∈ ([] : List Addr), Safe Z consts_1 U.vm h0 x) (fun _ _ _ _ _ => True) (fun _ U o U' => ∃ v L, o = .returned v ∧ Q_law n0 v L ∧ CHr Z consts_1 U.vm U.heap U'.vm U'.heap ∧ ReturnedEndW U o U' L 56 5440)
theorem law_00 (l : Launch) (Z : State) (a0 : Array Value) (hw : HW Z a0) (ws : List Jvm.Cond) (p0 p1 p2 p3 cs : Int32) (st_NO st_DC st_EL el_EL st_CD st_A : Addr) (tA : List Value) (m_AL m_UL m_UR m_LM m_UM : Addr) (h0 : Heap) (n0 : Nat) (Z0 : n0 ≤ h0.size) (hcs : ¬ (cs = (0 : Int32))) (hs : ((p0 &&& (2147483647 : Int32)) - ((p0 &&& (2147483647 : Int32)) / (3 : Int32)) * (3 : Int32)) = (0 : Int32)) (hpm : (p1 &&& (3 : Int32)) = (0 : Int32)) (sCS : SCS Z cs) (O0 : Old Z n0 h0) (S_DEFAULTCAPACITY_EMPTY_ELEMENTDATA : Sa0 Z (.ref st_DC)) (S_NO : Sa2 Z (.ref st_NO)) (M_java_util_ArrayList : OMir Z "java/util/ArrayList" m_AL) (M_java_util_Collections_UnmodifiableList : OMir Z "java/util/Collections$UnmodifiableList" m_UL) (M_java_util_Collections_UnmodifiableRandomAccessList : OMir Z "java/util/Collections$UnmodifiableRandomAccessList" m_UR) (M_java_util_LinkedHashMap : OMir Z "java/util/LinkedHashMap" m_LM) (M_java_util_Collections_UnmodifiableMap : OMir Z "java/util/Collections$UnmodifiableMap" m_UM) (S_EMPTY_LIST : Sa1 Z (.ref st_EL)) :
    LawM l Z ws p0 p1 p2 p3 h0 n0 := by
 refine own_bodyH (k := 16) (n := 147) (y := x) (Q := fun v _ L => Q_law n0 v L) (own_EW hw) (plainFor_of_name pn_BeanDefinitionGetScopePinLaw149) (ef_law p0 p1 p2 p3) (by decide) (by decide) ?_
 intro p e s m below meth c s₁ hx hby hml hown hnm hret hZ e0 hS0 hk0 X0 hC0 hSF0
 have N0 := Fr.nil n0
 obtain ⟨T1, h1, k1, X1, e1, E1, A1, st1⟩ := newP (aty := .char) X0 hx hZ (w1 hw) e0 (g := (mkF m 14 #[vi p0, vi p1, vi p2, vi p3, vi 0, vi 0, .unset, .unset, .unset, .unset, .unset, .unset] [(.int 2)])) rfl (hb hby at_14) rfl (by decide) (cap := 2) (by decide) (by decide) (by decide) (by decide)
 obtain ⟨b1, g1⟩ : ∃ z, z = h0.size := ⟨_, rfl⟩
 rw [← g1] at A1 st1
 have ge_b1 : h0.size ≤ b1 := Nat.le_of_eq g1.symm
 have K1 := KL.ofE E1
 have Ck0 := own_chK K1 na0 (CHr.refl hC0).1
 have Ah1 := (CHr.refl hC0).trans Ck0.1
 have V1 : Arv Z h1 b1 k1 .char 2 [z0, z0] z0 := (Arv.new A1 (by decide)).pad (pad_rep [] z0 2)
 obtain ⟨T2, h2, X2, e2, W2, V2, st2⟩ := own_astC X1 hx hZ e1 V1 (j := 0) (by decide) 0 rfl (Nat.le_of_ble_eq_true rfl) (g := (mkF m 32 #[vi p0, vi p1, vi p2, vi p3, vi 0, vi 0, vr b1, .unset, .unset, .unset, .unset, .unset] [(.int (own_c0 p2)), z0, (.ref b1)])) rfl rfl (hb hby at_32)
 rw [show (nar .char (own_c0 p2)) = (own_c0 p2) from (own_c2c (own_c0a p2) (own_c0b p2))] at V2
 have gg3 := Nat.le_trans Z0 ge_b1
 have K2 := KL.ofW W2
 have Ck1 := own_chK K2 (naF (Ck0.2 _ (Safe.new ge_b1)) na0) Ah1.1
 have Ah2 := Ah1.trans Ck1.1
 replace V2 : Arv Z h2 b1 k1 .char 2 [(.int (own_c0 p2)), z0] z0 := V2
 have N2 := Fr.snoc X2 N0 gg3
 obtain ⟨T4, h4, X4, e4, W4, V4, st4⟩ := own_astC X2 hx hZ e2 V2 (j := 1) (by decide) 1 rfl (Nat.le_of_ble_eq_true rfl) (g := (mkF m 42 #[vi p0, vi p1, vi p2, vi p3, vi 0, vi 0, vr b1, .unset, .unset, .unset, .unset, .unset] [(.int (p3 &&& (255 : Int32))), (.int 1), (.ref b1)])) rfl rfl (hb hby at_42)
 rw [show (nar .char (p3 &&& (255 : Int32))) = (p3 &&& (255 : Int32)) from (i2c_mask _)] at V4
 have K4 := KL.ofW W4
 have sf5 := (Ck1.2 _ (Ck0.2 _ (Safe.new ge_b1)))
 have Ck2 := own_chK K4 (naF sf5 na0) Ah2.1
 have Ah3 := Ah2.trans Ck2.1
 replace V4 : Arv Z h4 b1 k1 .char 2 [(.int (own_c0 p2)), (.int (p3 &&& (255 : Int32)))] z0 := V4
 have N4 := Fr.snoc X4 N2 gg3
 obtain ⟨T6, h6, X6, e6, E6, A6, D6, -, st6⟩ := newO X4 hx hZ hown (w2 hw) (w3 hw) (w4 hw) e4 (g := (mkF m 43 #[vi p0, vi p1, vi p2, vi p3, vi 0, vi 0, vr b1, .unset, .unset, .unset, .unset, .unset] [])) rfl (hb hby at_43) (by decide) (by decide)
 obtain ⟨b6, g6⟩ : ∃ z, z = h4.size := ⟨_, rfl⟩
 rw [← g6] at A6 D6 st6
 have ge_b6 : h4.size ≤ b6 := Nat.le_of_eq g6.symm
 have K6 := KL.ofE E6
 have Ck3 := own_chK K6 na0 Ah3.1
 have Ah4 := Ah3.trans Ck3.1
 have F_b6_coder : Fd3 Z h6 b6 z0 := D6 (Or.inr (w28 hw)) (ty := .byte) (by decide)
 have F_b6_value : Fd4 Z h6 b6 .null := D6 (Or.inr (w30 hw)) (ty := (.array .byte)) (by decide)
 have f8 := (kArv K6 V4 na0)
 have f9 := (kOld K6 (kOld K4 (kOld K2 (kOld K1 O0 na0) (naG gg3 na0)) (naG gg3 na0)) na0)
 have sz_0_2 := (Nat.le_trans K1.1 K2.1)
 have sz_0_3 := (Nat.le_trans sz_0_2 K4.1)
 have gg10 := Nat.le_trans Z0 (Nat.le_trans sz_0_3 ge_b6)
 have sz_0_4 := (Nat.le_trans sz_0_3 K6.1)
 obtain ⟨_, T7, L7, X7, hQ7, st7⟩ := own_init X6 hx hZ rfl hown (w5 hw) (w6 hw) (w4 hw) (w7 hw) (by decide) (r7__init_ l Z a0 hw [] b6 b1 (own_c0 p2) (p3 &&& (255 : Int32)) k1 cs h6 n0 (Nat.le_trans Z0 sz_0_4) f8 sCS F_b6_coder A6 F_b6_value f9 hcs (own_c0b p2) (own_m255b _) gg10) e6 (W := 1) (by decide) (g := (mkF m 49 #[vi p0, vi p1, vi p2, vi p3, vi 0, vi 0, vr b1, .unset, .unset, .unset, .unset, .unset] [(.ref b1), (.ref b6), (.ref b6)])) rfl hml.symm (argsL := [(.ref b1)]) (rest := [(.ref b6)]) (lenOf pd_8 rfl) rfl rfl (own_wr rfl rfl) (hb hby at_49)
 obtain ⟨b1_6_4_7, k1_6_4_7, rfl, N7q, K7, Q7_0, Q7_1, Q7_2, Q7_3⟩ := hQ7
 have N7 := Fr.app N4 N7q
 have Ck4 := own_chK K7 (naF (Ck3.2 _ (Safe.new ge_b6)) (naF (Ck3.2 _ (Safe.new ge_b6)) na0)) Ah4.1
 have Ah5 := Ah4.trans Ck4.1
 obtain ⟨T12, h12, X12, e12, E12, A12, D12, -, st12⟩ := newO X7 hx hZ hown (w31 hw) (w32 hw) (w33 hw) rfl (g := (mkF m 54 #[vi p0, vi p1, vi p2, vi p3, vi 0, vi 0, vr b1, vr b6, .unset, .unset, .unset, .unset] [])) rfl (hb hby at_54) (by decide) (by decide)
 obtain ⟨b12, g12⟩ : ∃ z, z = T7.heap.size := ⟨_, rfl⟩
 rw [← g12] at A12 D12 st12
 have ge_b12 : T7.heap.size ≤ b12 := Nat.le_of_eq g12.symm
 have K12 := KL.ofE E12
 have Ck5 := own_chK K12 na0 Ah5.1
 have Ah6 := Ah5.trans Ck5.1
 have F_b12_singleton : Fd5 Z h12 b12 z0 := D12 (Or.inl (w39 hw)) (ty := .boolean) (by decide)
 have F_b12_initMethodRequired : Fd6 Z h12 b12 z0 := D12 (Or.inl (w41 hw)) (ty := .boolean) (by decide)
 have F_b12_destroyMethodRequired : Fd7 Z h12 b12 z0 := D12 (Or.inl (w43 hw)) (ty := .boolean) (by decide)
 have F_b12_dependsOn : Fd8 Z h12 b12 .null := D12 (Or.inr (w69 hw)) (ty := (.object "java/util/List")) (by decide)
 have F_b12_autowireCandidate : Fd9 Z h12 b12 z0 := D12 (Or.inl (w71 hw)) (ty := .boolean) (by decide)
 have F_b12_autowireMode : Fd10 Z h12 b12 .null := D12 (Or.inl (w76 hw)) (ty := (.object "com/example/graft_container/graftcontainer/BeanDefinition$Autowire")) (by decide)
 have F_b12_qualifiers : Fd11 Z h12 b12 .null := D12 (Or.inr (w104 hw)) (ty := (.object "java/util/Map")) (by decide)
 have F_b12_propertyValues : Fd12 Z h12 b12 .null := D12 (Or.inr (w106 hw)) (ty := (.object "java/util/List")) (by decide)
 have F_b12_constructorArguments : Fd13 Z h12 b12 .null := D12 (Or.inr (w108 hw)) (ty := (.object "java/util/List")) (by decide)
 have F_b12_dependsOnView : Fd14 Z h12 b12 .null := D12 (Or.inr (w153 hw)) (ty := (.object "java/util/List")) (by decide)
 have F_b12_qualifiersView : Fd15 Z h12 b12 .null := D12 (Or.inr (w174 hw)) (ty := (.object "java/util/Map")) (by decide)
 have F_b12_propertyValuesView : Fd16 Z h12 b12 .null := D12 (Or.inr (w176 hw)) (ty := (.object "java/util/List")) (by decide)
 have F_b12_constructorArgumentsView : Fd17 Z h12 b12 .null := D12 (Or.inr (w178 hw)) (ty := (.object "java/util/List")) (by decide)
 have F_b12_changeListeners : Fd18 Z h12 b12 .null := D12 (Or.inl (w186 hw)) (ty := (.object "java/util/List")) (by decide)
 have F_b12_outers : Fd19 Z h12 b12 .null := D12 (Or.inl (w188 hw)) (ty := (.object "java/util/List")) (by decide)
 have F_b12_frozen : Fd20 Z h12 b12 z0 := D12 (Or.inl (w203 hw)) (ty := .boolean) (by decide)
 have F_b12_parentName : Fd21 Z h12 b12 .null := D12 (Or.inl (w310 hw)) (ty := (.object "java/lang/String")) (by decide)
 have F_b12_scope : Fd22 Z h12 b12 .null := D12 (Or.inl (w322 hw)) (ty := (.object "java/lang/String")) (by decide)
 have sz_0_5 := (Nat.le_trans sz_0_4 K7.1)
 have gg14 := Nat.le_trans Z0 (Nat.le_trans sz_0_5 ge_b12)
 have f15 := (kOld K12 (kOld K7 f9 (naG gg10 (naG gg10 na0))) na0)
 have sz_0_6 := (Nat.le_trans sz_0_5 K12.1)
 obtain ⟨_, T13, L13, X13, hQ13, st13⟩ := own_init X12 hx hZ rfl hown (w34 hw) (w35 hw) (w33 hw) (w36 hw) (by decide) (r12__init_ l Z a0 hw [] b12 st_DC st_NO m_AL m_UL m_UR m_LM m_UM st_EL h12 n0 (Nat.le_trans Z0 sz_0_6) F_b12_singleton A12 gg14 F_b12_initMethodRequired F_b12_destroyMethodRequired S_DEFAULTCAPACITY_EMPTY_ELEMENTDATA f15 F_b12_dependsOn F_b12_autowireCandidate S_NO F_b12_autowireMode F_b12_qualifiers F_b12_propertyValues F_b12_constructorArguments M_java_util_ArrayList M_java_util_Collections_UnmodifiableList M_java_util_Collections_UnmodifiableRandomAccessList F_b12_dependsOnView M_java_util_LinkedHashMap M_java_util_Collections_UnmodifiableMap F_b12_qualifiersView F_b12_propertyValuesView F_b12_constructorArgumentsView S_EMPTY_LIST F_b12_changeListeners F_b12_outers) e12 (W := 1) (by decide) (g := (mkF m 58 #[vi p0, vi p1, vi p2, vi p3, vi 0, vi 0, vr b1, vr b6, .unset, .unset, .unset, .unset] [(.ref b12), (.ref b12)])) rfl hml.symm (argsL := []) (rest := [(.ref b12)]) (lenOf pd_9 rfl) rfl rfl (own_wr rfl rfl) (hb hby at_58)
 obtain ⟨b9_13, b27_13, b34_13, b42_13, r_55_13, r_64_13, r_71_13, r_78_13, rfl, N13q, K13, Q13_0, Q13_1, Q13_2, Q13_3, Q13_4, Q13_5, Q13_6, Q13_7, Q13_8, Q13_9, Q13_10, Q13_11, Q13_12, Q13_13, Q13_14, Q13_15, Q13_16, Q13_17, Q13_18, Q13_19, Q13_20, Q13_21, Q13_22⟩ := hQ13
 have N13 := Fr.app N7 N13q
 have Ck6 := own_chK K13 (naFM 15 rfl (Safe.exa hZ.alike A12 (by decide) (by decide)) na0) Ah6.1
 have Ah7 := Ah6.trans Ck6.1
 have f17 := (kFld K13 F_b12_scope (nwf_0 hw b12))
 have f18 := (kFld K13 F_b12_parentName (nwf_1 hw b12))
 have sz_0_7 := (Nat.le_trans sz_0_6 K13.1)
 have f19 := (kExa K13 A12)
 obtain ⟨_, T16, L16, X16, hS16, hk16, hZ16, hown16, hQ16, hC16, st16⟩ := own_Hvirtual X13 hx hZ hown (w328 hw) (w317 hw) (nfS hZ (w319 hw)) (w319 hw) (w318 hw) (w33 hw) (w320 hw) (by decide) (r20_getScope l Z a0 hw [] b12 T13.heap n0 (Nat.le_trans Z0 sz_0_7) f17 f18) rfl f19 (W := 0) (by decide) (g := (mkF m 157 #[vi p0, vi p1, vi p2, vi p3, vi 0, vi 0, vr b1, vr b6, vr b12, vi 0, .unset, .unset] [(.ref b12)])) rfl hml.symm (argsL := []) (rest := []) (lenOf pd_13 rfl) rfl rfl (own_wr rfl rfl) (hb hby at_157) hS0 (Nat.le_trans hk0 sz_0_7) (own_EW hw) Ah7.1 sf0
 obtain ⟨c3_16, b3_16, kb3_16, rfl, N16q, K16, Q16_0, Q16_1, Q16_2, Q16_3, Q16_4, Q16_5⟩ := hQ16
 have N16 := Fr.app N13 N16q
 have Ah8 := Ah7.trans hC16
 obtain ⟨c20, T20, h20, k20, b20, kb20, X20, e20, E20, hS20, hk20, hZ20, hown20, Ex20, Fc20, Fv20, Ar20, lta20, ltb20, hC20, Lt20, hne20, st20⟩ := ldcCH X16 hx hZ16 hown16 (w329 hw) (own_wS hw) rfl hS16 hk16 (own_EW hw) (by decide) Ah8.1 (vs := [(.int 115), (.int 105), (.int 110), (.int 103), (.int 108), (.int 101), (.int 116), (.int 111), (.int 110)]) (z := 9) ⟨by decide, rfl⟩ (by decide) rfl (g := (mkF m 199 #[vi p0, vi p1, vi p2, vi p3, vi 0, vi 0, vr b1, vr b6, vr b12, vi 0, vr c3_16, .unset] [])) rfl (hb hby at_199) (n := 36) (by decide) (by decide) (by decide) (by decide)
 have K20 := KL.ofE E20
 have Ah9 := Ah8.trans hC20
 have f22 := (kExa K20 Q16_2)
 have f23 := (kOld K20 (kOld K16 (kOld K13 f15 (naGM 15 rfl gg14 na0)) na0) na0)
 have f24 := (kFld K20 Q16_3 nw0)
 have f25 := (kFld K20 Q16_4 nw0)
 have f26 := (kArv K20 Q16_5 na0)
 have sz_0_8 := (Nat.le_trans sz_0_7 K16.1)
 have sz_0_9 := (Nat.le_trans sz_0_8 K20.1)
 obtain ⟨_, T21, L21, X21, hQ21, st21⟩ := own_virtual X20 hx hZ20 hown20 (w335 hw) (w324 hw) (nfS hZ20 (w326 hw)) (w326 hw) (w325 hw) (w4 hw) (w327 hw) (by decide) (r_eqs l Z a0 hw [] c20 c3_16 b20 b3_16 cs kb20 kb3_16 h20 n0 (Nat.le_trans Z0 sz_0_9) hcs f22 sCS f23 Fc20 f24 Fv20 f25 Ar20 f26) e20 Ex20 (W := 0) (by decide) (g := (mkF m 228 #[vi p0, vi p1, vi p2, vi p3, vi 0, vi 0, vr b1, vr b6, vr b12, vi 0, vr c3_16, vr c20] [(.ref c3_16), (.ref c20)])) rfl hml.symm (argsL := [(.ref c3_16)]) (rest := []) (lenOf pd_14 rfl) rfl rfl (own_wr rfl rfl) (hb hby at_228)
 obtain ⟨rfl, N21q, e21⟩ := hQ21
 have N21 := Fr.app N16 N21q
 refine ⟨T21, _, some (.int 1), _, _, X21, hS20, (by rw [e21]; exact hk20), (fun h => by cases h <;> rfl), ?_, (by rw [e21]; exact Ah9), hZ20, fun fs hr => ?_⟩
 · show Q_law n0 _ _
   exact ⟨rfl, N21⟩
 refine t_iloadN 1 X0.here hx hby at_0 rfl rfl ?_
 refine X0.ldcInt hx hown (mvT hZ (w0 hw)) (g := (mkF m 1 #[vi p0, vi p1, vi p2, vi p3, .unset, .unset, .unset, .unset, .unset, .unset, .unset, .unset] [(.int p0)])) rfl (hb hby at_1) _ ?_
 refine t_iand 4 X0.here hx hby at_3 rfl rfl ?_
 refine t_iconst 5 (r := 3) X0.here hx hby at_4 (by decide) rfl ?_
 refine t_irem 6 (r := 0) X0.here hx hby at_5 (by decide) hs rfl ?_
 refine t_istore (pc' := 8) (L' := #[vi p0, vi p1, vi p2, vi p3, vi 0, .unset, .unset, .unset, .unset, .unset, .unset, .unset]) X0.here hx hby at_6 rfl rfl ?_
 refine t_iloadN 9 X0.here hx hby at_8 rfl rfl ?_
 refine t_iconst 10 (r := 3) X0.here hx hby at_9 (by decide) rfl ?_
 refine t_iand 11 (r := 0) X0.here hx hby at_10 hpm rfl ?_
 refine t_istore (pc' := 13) (L' := #[vi p0, vi p1, vi p2, vi p3, vi 0, vi 0, .unset, .unset, .unset, .unset, .unset, .unset]) X0.here hx hby at_11 rfl rfl ?_
 refine t_iconst 14 (r := 2) X0.here hx hby at_13 (by decide) rfl ?_
 refine st1 _ ?_
 refine t_astore (pc' := 18) (L' := #[vi p0, vi p1, vi p2, vi p3, vi 0, vi 0, vr b1, .unset, .unset, .unset, .unset, .unset]) X1.here hx hby at_16 rfl rfl rfl ?_
 refine t_aload 20 X1.here hx hby at_18 rfl rfl rfl ?_
 refine t_iconst 21 (r := 0) X1.here hx hby at_20 (by decide) rfl ?_
 refine t_bipush 23 (r := 33) X1.here hx hby at_21 (by decide) rfl ?_
 refine t_iloadN 24 X1.here hx hby at_23 rfl rfl ?_
 refine X1.ldcInt hx hown (mvT hZ (w0 hw)) (g := (mkF m 24 #[vi p0, vi p1, vi p2, vi p3, vi 0, vi 0, vr b1, .unset, .unset, .unset, .unset, .unset] [(.int p2), (.int 33), z0, (.ref b1)])) rfl (hb hby at_24) _ ?_
 refine t_iand 27 X1.here hx hby at_26 rfl rfl ?_
 refine t_bipush 29 (r := 94) X1.here hx hby at_27 (by decide) rfl ?_
 refine t_irem 30 X1.here hx hby at_29 (by decide) rfl rfl ?_
 refine t_iadd 31 (r := (own_c0 p2)) X1.here hx hby at_30 (Eq.refl (own_c0 p2)) rfl ?_
 refine t_i2c 32 (r := (own_c0 p2)) X1.here hx hby at_31 (own_c2c (own_c0a p2) (own_c0b p2)) rfl ?_
 refine st2 _ ?_
 refine t_aload 35 X2.here hx hby at_33 rfl rfl rfl ?_
 refine t_iconst 36 (r := 1) X2.here hx hby at_35 (by decide) rfl ?_
 refine t_iloadN 37 X2.here hx hby at_36 rfl rfl ?_
 refine t_sipush 40 (r := 255) X2.here hx hby at_37 (by decide) rfl ?_
 refine t_iand 41 X2.here hx hby at_40 rfl rfl ?_
 refine t_i2c 42 (r := (p3 &&& (255 : Int32))) X2.here hx hby at_41 (i2c_mask _) rfl ?_
 refine st4 _ ?_
 refine st6 _ ?_
 refine t_dup 47 X6.here hx hby at_46 rfl rfl ?_
 refine t_aload 49 X6.here hx hby at_47 rfl rfl rfl ?_
 refine st7 _ ?_
 refine t_astore (pc' := 54) (L' := #[vi p0, vi p1, vi p2, vi p3, vi 0, vi 0, vr b1, vr b6, .unset, .unset, .unset, .unset]) X7.here hx hby at_52 rfl rfl rfl ?_
 refine st12 _ ?_
 refine t_dup 58 X12.here hx hby at_57 rfl rfl ?_
 refine st13 _ ?_
 refine t_astore (pc' := 63) (L' := #[vi p0, vi p1, vi p2, vi p3, vi 0, vi 0, vr b1, vr b6, vr b12, .unset, .unset, .unset]) X13.here hx hby at_61 rfl rfl rfl ?_
 refine t_iload 65 X13.here hx hby at_63 rfl rfl ?_
 refine t_iconst 66 (r := 1) X13.here hx hby at_65 (by decide) rfl ?_
 refine t_icmpNo 69 X13.here hx hby at_66 (by decide) rfl ?_
 refine t_iload 71 X13.here hx hby at_69 rfl rfl ?_
 refine t_iconst 72 (r := 2) X13.here hx hby at_71 (by decide) rfl ?_
 refine t_icmpYes (pc := 72) 82 X13.here hx hby at_72 (by decide) (by decide) (by decide) ?_
 refine t_iload 84 X13.here hx hby at_82 rfl rfl ?_
 refine t_iconst 85 (r := 2) X13.here hx hby at_84 (by decide) rfl ?_
 refine t_icmpYes (pc := 85) 94 X13.here hx hby at_85 (by decide) (by decide) (by decide) ?_
 refine t_iload 96 X13.here hx hby at_94 rfl rfl ?_
 refine t_iconst 97 (r := 1) X13.here hx hby at_96 (by decide) rfl ?_
 refine t_icmpYes (pc := 97) 110 X13.here hx hby at_97 (by decide) (by decide) (by decide) ?_
 refine t_iload 112 X13.here hx hby at_110 rfl rfl ?_
 refine t_iconst 113 (r := 2) X13.here hx hby at_112 (by decide) rfl ?_
 refine t_icmpYes (pc := 113) 123 X13.here hx hby at_113 (by decide) (by decide) (by decide) ?_
 refine t_iload 125 X13.here hx hby at_123 rfl rfl ?_
 refine t_iconst 126 (r := 3) X13.here hx hby at_125 (by decide) rfl ?_
 refine t_icmpYes (pc := 126) 136 X13.here hx hby at_126 (by decide) (by decide) (by decide) ?_
 refine t_iload 138 X13.here hx hby at_136 rfl rfl ?_
 refine t_iconst 139 (r := 1) X13.here hx hby at_138 (by decide) rfl ?_
 refine t_icmpNo 142 X13.here hx hby at_139 (by decide) rfl ?_
 refine t_iload 144 X13.here hx hby at_142 rfl rfl ?_
 refine t_iconst 145 (r := 3) X13.here hx hby at_144 (by decide) rfl ?_
 refine t_icmpYes (pc := 145) 152 X13.here hx hby at_145 (by decide) (by decide) (by decide) ?_
 refine t_iconst 153 (r := 0) X13.here hx hby at_152 (by decide) rfl ?_
 refine t_istore (pc' := 155) (L' := #[vi p0, vi p1, vi p2, vi p3, vi 0, vi 0, vr b1, vr b6, vr b12, vi 0, .unset, .unset]) X13.here hx hby at_153 rfl rfl ?_
 refine t_aload 157 X13.here hx hby at_155 rfl rfl rfl ?_
 refine st16 _ ?_
 refine t_astore (pc' := 162) (L' := #[vi p0, vi p1, vi p2, vi p3, vi 0, vi 0, vr b1, vr b6, vr b12, vi 0, vr c3_16, .unset]) X16.here hx hby at_160 rfl rfl rfl ?_
 refine t_iload 164 X16.here hx hby at_162 rfl rfl ?_
 refine t_iconst 165 (r := 1) X16.here hx hby at_164 (by decide) rfl ?_
 refine t_icmpYes (pc := 165) 175 X16.here hx hby at_165 (by decide) (by decide) (by decide) ?_
 refine t_iload 177 X16.here hx hby at_175 rfl rfl ?_
 refine t_iconst 178 (r := 2) X16.here hx hby at_177 (by decide) rfl ?_
 refine t_icmpYes (pc := 178) 188 X16.here hx hby at_178 (by decide) (by decide) (by decide) ?_
 refine t_iload 190 X16.here hx hby at_188 rfl rfl ?_
 refine t_ifYes (pc := 190) 199 X16.here hx hby at_190 (by decide) (by decide) (by decide) ?_
 refine st20 _ ?_
 refine t_astore (pc' := 203) (L' := #[vi p0, vi p1, vi p2, vi p3, vi 0, vi 0, vr b1, vr b6, vr b12, vi 0, vr c3_16, vr c20]) X20.here hx hby at_201 rfl rfl rfl ?_
 refine t_aload 205 X20.here hx hby at_203 rfl rfl rfl ?_
 refine t_ifnonnullYes (pc := 205) 219 X20.here hx hby at_205 (by decide) (by decide) ?_
 refine t_aload 221 X20.here hx hby at_219 rfl rfl rfl ?_
 refine t_ifnullNo 224 X20.here hx hby at_221 rfl ?_
 refine t_aload 226 X20.here hx hby at_224 rfl rfl rfl ?_
 refine t_aload 228 X20.here hx hby at_226 rfl rfl rfl ?_
 refine st21 _ ?_
 refine t_ifNo 234 X21.here hx hby at_231 (by decide) rfl ?_
 refine t_iconst 235 (r := 1) X21.here hx hby at_234 (by decide) rfl ?_
 refine t_goto (pc := 235) 239 X21.here hx hby at_235 (by decide) (by decide) ?_
 exact retN X21 hx (t := .boolean) hret (by simp) (hb hby at_239) hr
def w189 (hw : HW Z a0) := ow 189 hw rfl
def w192 (hw : HW Z a0) := ow 192 hw rfl
abbrev b22_ := prog_7_method_10_code
theorem d290 : decode b22_ 0 = .ok (.aload_n 0, 1) := by decide +kernel
theorem d291 : decode b22_ 1 = .ok (.invokevirtual 93, 3) := by decide +kernel
def w194 (hw : HW Z a0) := ow 194 hw rfl
abbrev b23_ := prog_7_method_54_code
theorem d292 : decode b23_ 0 = .ok (.aload_n 0, 1) := by decide +kernel
theorem d293 : decode b23_ 1 = .ok (.invokevirtual 327, 3) := by decide +kernel
def w198 (hw : HW Z a0) := ow 198 hw rfl
abbrev b24_ := prog_7_method_55_code
theorem d294 : decode b24_ 0 = .ok (.aload_n 0, 1) := by decide +kernel
theorem d295 : decode b24_ 1 = .ok (.getfield 122, 3) := by decide +kernel
def w202 (hw : HW Z a0) := ow 202 hw rfl
theorem d296 : decode b24_ 4 = .ok (.istore_n 1, 1) := by decide +kernel
theorem d297 : decode b24_ 5 = .ok (.iconst 0, 1) := by decide +kernel
theorem d298 : decode b24_ 6 = .ok (.istore_n 2, 1) := by decide +kernel
theorem d299 : decode b24_ 7 = .ok (.iload_n 2, 1) := by decide +kernel
theorem d300 : decode b24_ 8 = .ok (.aload_n 0, 1) := by decide +kernel
theorem d301 : decode b24_ 9 = .ok (.getfield 82, 3) := by decide +kernel
theorem d302 : decode b24_ 12 = .ok (.invokeinterface 190 1, 5) := by decide +kernel
def w204 (hw : HW Z a0) := ow 204 hw rfl
abbrev Ex6 (Z : State) (h : Heap) (a : Addr) : Prop := Exa Z h a "java/util/ImmutableCollections$ListN"
def w207 (hw : HW Z a0) := ow 207 hw rfl
abbrev b25_ := jdk_45_method_3_code
theorem d303 : decode b25_ 0 = .ok (.aload_n 0, 1) := by decide +kernel
theorem d304 : decode b25_ 1 = .ok (.getfield 7, 3) := by decide +kernel
def w214 (hw : HW Z a0) := ow 214 hw rfl
abbrev Fd28 (Z : State) (h : Heap) (a : Addr) (v : Value) : Prop := Fld Z h a "java/util/ImmutableCollections$ListN" "elements" "[Ljava/lang/Object;" v
theorem d305 : decode b25_ 4 = .ok (.arraylength, 1) := by decide +kernel
theorem d306 : decode b25_ 5 = .ok (.ireturn, 1) := by decide +kernel
theorem pn_ImmutableCollections_ListN572 : plainName "java/util/ImmutableCollections$ListN" = true := by first | (simp [plainName, overriddenIn]; done) | decide +kernel
abbrev y22_size : MethodName := ⟨"java/util/ImmutableCollections$ListN", "size", "()I"⟩
def Q_r24_size (Z : State) (o0 o_1 : Addr) (k_o_1 : ClassId) (h0 : Heap) (n0 : Nat) (v : Option Value) (h : Heap) (L : List Loc) : Prop := v = some z0 ∧ Fr n0 L ∧ h = h0
theorem r24_size (l : Launch) (Z : State) (a0 : Array Value) (hw : HW Z a0) (ws : List Jvm.Cond) (o0 o_1 : Addr) (k_o_1 : ClassId) (h0 : Heap) (n0 : Nat) (Z0 : n0 ≤ h0.size) (F_o0_elements : Fd28 Z h0 o0 (.ref o_1)) (V_o_1 : Arv Z h0 o_1 k_o_1 (.object "java/lang/Object") (0 : Int32) [] .null) :
    MF l Z y22_size b25_ 1 (some .int) ws ⟨0, 0, 0, 0⟩ #[(.ref o0)] h0 (Q_r24_size Z o0 o_1 k_o_1 h0 n0) := by
 refine own_body (plainFor_of_name pn_ImmutableCollections_ListN572) (ef_1 o0) (by decide) (by decide) ?_
 intro p e s m below meth c s₁ hx hby hml hown hnm hret hZ hh e0 X0
 have N0 := Fr.nil n0
 obtain ⟨T2, X2, e2, st2⟩ := getF X0 hx hZ hown (host := "") (Or.inl (w214 hw)) Via.refl e0 F_o0_elements (g := (mkF m 1 #[vr o0] [(.ref o0)])) rfl rfl (hb hby d304)
 refine ⟨T2, _, some z0, X2, (fun h => by cases h <;> rfl), ?_, fun fs hr => ?_⟩
 · show Q_r24_size Z o0 o_1 k_o_1 h0 n0 _ T2.heap _
   rw [e2]
   exact ⟨rfl, N0, rfl⟩
 refine t_aloadN 1 X0.here hx hby d303 rfl rfl rfl ?_
 refine st2 _ ?_
 refine own_arlen (pc' := 5) X2 hx hZ e2 V_o_1 (hb hby d305) rfl ?_
 exact retI X2 hx hret (hb hby d306) hr
def w213 (hw : HW Z a0) := ow 213 hw rfl
def w212 (hw : HW Z a0) := ow 212 hw rfl
theorem pd_15 : parseMethodDescriptor "()I" = some ⟨[], some .int⟩ := by decide +kernel
def w205 (hw : HW Z a0) := ow 205 hw rfl
def w206 (hw : HW Z a0) := ow 206 hw rfl
def w208 (hw : HW Z a0) := ow 208 hw rfl
def w209 (hw : HW Z a0) := ow 209 hw rfl
def w210 (hw : HW Z a0) := ow 210 hw rfl
def w211 (hw : HW Z a0) := ow 211 hw rfl
theorem d307 : decode b24_ 17 = .ok (.if_icmp .ge 30, 3) := by decide +kernel
theorem d308 : decode b24_ 47 = .ok (.iload_n 1, 1) := by decide +kernel
theorem d309 : decode b24_ 48 = .ok (.ireturn, 1) := by decide +kernel
theorem ef_9 (x0 : Addr) (m : MethodId) : entryFrame m #[(.ref x0)] 3 = mkF m 0 #[.val (.ref x0), .unset, .unset] [] := by first | (simp [entryFrame, mkF, argsToLocals, Value.category]; done) | rfl
abbrev y23_isFrozen : MethodName := ⟨"com/example/graft_container/graftcontainer/BeanDefinition", "isFrozen", "()Z"⟩
def Q_r23_isFrozen (Z : State) (o0 o_2 o_4 : Addr) (k_o_4 : ClassId) (h0 : Heap) (n0 : Nat) (v : Option Value) (h : Heap) (L : List Loc) : Prop := v = some z0 ∧ Fr n0 L ∧ h = h0
theorem r23_isFrozen (l : Launch) (Z : State) (a0 : Array Value) (hw : HW Z a0) (ws : List Jvm.Cond) (o0 o_2 o_4 : Addr) (k_o_4 : ClassId) (h0 : Heap) (n0 : Nat) (Z0 : n0 ≤ h0.size) (F_o0_frozen : Fd20 Z h0 o0 z0) (F_o0_outers : Fd19 Z h0 o0 (.ref o_2)) (E_o_2 : Ex6 Z h0 o_2) (F_o_2_elements : Fd28 Z h0 o_2 (.ref o_4)) (V_o_4 : Arv Z h0 o_4 k_o_4 (.object "java/lang/Object") (0 : Int32) [] .null) :
    MF l Z y23_isFrozen b24_ 3 (some .boolean) ws ⟨1, 0, 0, 13⟩ #[(.ref o0)] h0 (Q_r23_isFrozen Z o0 o_2 o_4 k_o_4 h0 n0) := by
 refine own_body (plainFor_of_name pn_BeanDefinition762) (ef_9 o0) (by decide) (by decide) ?_
 intro p e s m below meth c s₁ hx hby hml hown hnm hret hZ hh e0 X0
 have N0 := Fr.nil n0
 obtain ⟨T1, X1, e1, st1⟩ := getF X0 hx hZ hown (host := "") (Or.inl (w202 hw)) Via.refl e0 F_o0_frozen (g := (mkF m 1 #[vr o0, .unset, .unset] [(.ref o0)])) rfl rfl (hb hby d295)
 obtain ⟨T3, X3, e3, st3⟩ := getF X1 hx hZ hown (host := "") (Or.inl (w187 hw)) Via.refl e1 F_o0_outers (g := (mkF m 9 #[vr o0, vi 0, vi 0] [(.ref o0), z0])) rfl rfl (hb hby d301)
 obtain ⟨_, T5, L5, X5, hQ5, st5⟩ := own_face X3 hx hZ hown (w204 hw) (w205 hw) (mvT hZ (w206 hw)) (w207 hw) (w208 hw) (w209 hw) (w210 hw) (w211 hw) (w212 hw) (w213 hw) (by decide) (r24_size l Z a0 hw [] o_2 o_4 k_o_4 h0 n0 Z0 F_o_2_elements V_o_4) e3 E_o_2 (W := 1) (by decide) (g := (mkF m 12 #[vr o0, vi 0, vi 0] [(.ref o_2), z0])) rfl hml.symm (argsL := []) (rest := [z0]) (lenOf pd_15 rfl) rfl rfl (own_wr rfl rfl) (hb hby d302)
 obtain ⟨rfl, N5q, e5⟩ := hQ5
 have N5 := Fr.app N0 N5q
 refine ⟨T5, _, some z0, X5, (fun h => by cases h <;> rfl), ?_, fun fs hr => ?_⟩
 · show Q_r23_isFrozen Z o0 o_2 o_4 k_o_4 h0 n0 _ T5.heap _
   rw [e5]
   exact ⟨rfl, N5, rfl⟩
 refine t_aloadN 1 X0.here hx hby d294 rfl rfl rfl ?_
 refine st1 _ ?_
 refine t_istoreN (pc' := 5) (L' := #[vr o0, vi 0, .unset]) X1.here hx hby d296 rfl rfl ?_
 refine t_iconst 6 (r := 0) X1.here hx hby d297 (by decide) rfl ?_
 refine t_istoreN (pc' := 7) (L' := #[vr o0, vi 0, vi 0]) X1.here hx hby d298 rfl rfl ?_
 refine t_iloadN 8 X1.here hx hby d299 rfl rfl ?_
 refine t_aloadN 9 X1.here hx hby d300 rfl rfl rfl ?_
 refine st3 _ ?_
 refine st5 _ ?_
 refine t_icmpYes (pc := 17) 47 X5.here hx hby d307 (by decide) (by decide) (by decide) ?_
 refine t_iloadN 48 X5.here hx hby d308 rfl rfl ?_
 exact retN X5 hx (t := .boolean) hret (by simp) (hb hby d309) hr
def w201 (hw : HW Z a0) := ow 201 hw rfl
theorem pd_16 : parseMethodDescriptor "()Z" = some ⟨[], some .boolean⟩ := by decide +kernel
def w199 (hw : HW Z a0) := ow 199 hw rfl
def w200 (hw : HW Z a0) := ow 200 hw rfl
theorem d310 : decode b23_ 4 = .ok (.ifCond .eq 40, 3) := by decide +kernel
theorem d311 : decode b23_ 44 = .ok (.aload_n 0, 1) := by decide +kernel
theorem d312 : decode b23_ 45 = .ok (.invokevirtual 337, 3) := by decide +kernel
def w216 (hw : HW Z a0) := ow 216 hw rfl
abbrev b26_ := prog_7_method_56_code
theorem d313 : decode b26_ 0 = .ok (.aload_n 0, 1) := by decide +kernel
theorem d314 : decode b26_ 1 = .ok (.getfield 79, 3) := by decide +kernel
theorem d315 : decode b26_ 4 = .ok (.invokeinterface 197 1, 5) := by decide +kernel
def w220 (hw : HW Z a0) := ow 220 hw rfl
def w223 (hw : HW Z a0) := ow 223 hw rfl
abbrev b27_ := jdk_46_method_10_code
theorem d316 : decode b27_ 0 = .ok (.new 61, 3) := by decide +kernel
def w229 (hw : HW Z a0) := ow 229 hw rfl
def w230 (hw : HW Z a0) := ow 230 hw rfl
def w231 (hw : HW Z a0) := ow 231 hw rfl
def w242 (hw : HW Z a0) := ow 242 hw rfl
abbrev Fd29 (Z : State) (h : Heap) (a : Addr) (v : Value) : Prop := Fld Z h a "java/util/ImmutableCollections$ListItr" "list" "Ljava/util/List;" v
abbrev sl29 (Z : State) : Nat := Jvm.RoadKit.slotOf Z "java/util/ImmutableCollections$ListItr" "list" "Ljava/util/List;"
def w244 (hw : HW Z a0) := ow 244 hw rfl
abbrev Fd30 (Z : State) (h : Heap) (a : Addr) (v : Value) : Prop := Fld Z h a "java/util/ImmutableCollections$ListItr" "size" "I" v
abbrev sl30 (Z : State) : Nat := Jvm.RoadKit.slotOf Z "java/util/ImmutableCollections$ListItr" "size" "I"
def w246 (hw : HW Z a0) := ow 246 hw rfl
abbrev Fd31 (Z : State) (h : Heap) (a : Addr) (v : Value) : Prop := Fld Z h a "java/util/ImmutableCollections$ListItr" "cursor" "I" v
abbrev sl31 (Z : State) : Nat := Jvm.RoadKit.slotOf Z "java/util/ImmutableCollections$ListItr" "cursor" "I"
def w248 (hw : HW Z a0) := ow 248 hw rfl
abbrev Fd32 (Z : State) (h : Heap) (a : Addr) (v : Value) : Prop := Fld Z h a "java/util/ImmutableCollections$ListItr" "isListIterator" "Z" v
abbrev sl32 (Z : State) : Nat := Jvm.RoadKit.slotOf Z "java/util/ImmutableCollections$ListItr" "isListIterator" "Z"
theorem d317 : decode b27_ 3 = .ok (.dup, 1) := by decide +kernel
theorem d318 : decode b27_ 4 = .ok (.aload_n 0, 1) := by decide +kernel
theorem d319 : decode b27_ 5 = .ok (.aload_n 0, 1) := by decide +kernel
theorem d320 : decode b27_ 6 = .ok (.invokevirtual 13, 3) := by decide +kernel
def w232 (hw : HW Z a0) := ow 232 hw rfl
def w235 (hw : HW Z a0) := ow 235 hw rfl
def w233 (hw : HW Z a0) := ow 233 hw rfl
def w234 (hw : HW Z a0) := ow 234 hw rfl
theorem d321 : decode b27_ 9 = .ok (.invokespecial 63, 3) := by decide +kernel
def w236 (hw : HW Z a0) := ow 236 hw rfl
abbrev b28_ := jdk_53_method_1_code
theorem d322 : decode b28_ 0 = .ok (.aload_n 0, 1) := by decide +kernel
theorem d323 : decode b28_ 1 = .ok (.invokespecial 1, 3) := by decide +kernel
def w240 (hw : HW Z a0) := ow 240 hw rfl
theorem d324 : decode b28_ 4 = .ok (.aload_n 0, 1) := by decide +kernel
theorem d325 : decode b28_ 5 = .ok (.aload_n 1, 1) := by decide +kernel
theorem d326 : decode b28_ 6 = .ok (.putfield 7, 3) := by decide +kernel
def w241 (hw : HW Z a0) := ow 241 hw rfl
abbrev Ex7 (Z : State) (h : Heap) (a : Addr) : Prop := Exa Z h a "java/util/ImmutableCollections$ListItr"
theorem d327 : decode b28_ 9 = .ok (.aload_n 0, 1) := by decide +kernel
theorem d328 : decode b28_ 10 = .ok (.iload_n 2, 1) := by decide +kernel
theorem d329 : decode b28_ 11 = .ok (.putfield 13, 3) := by decide +kernel
def w243 (hw : HW Z a0) := ow 243 hw rfl
theorem sn_252 (hw : HW Z a0) : sl30 Z ≠ sl29 Z := slot_ne (a0 := a0) (Or.inr (w244 hw)) (Or.inr (w242 hw)) (by decide) (t := .int) (t' := ft0_) (by decide) (by decide)
theorem d330 : decode b28_ 14 = .ok (.aload_n 0, 1) := by decide +kernel
theorem d331 : decode b28_ 15 = .ok (.iconst 0, 1) := by decide +kernel
theorem d332 : decode b28_ 16 = .ok (.putfield 17, 3) := by decide +kernel
def w245 (hw : HW Z a0) := ow 245 hw rfl
theorem sn_253 (hw : HW Z a0) : sl31 Z ≠ sl29 Z := slot_ne (a0 := a0) (Or.inl (w246 hw)) (Or.inr (w242 hw)) (by decide) (t := .int) (t' := ft0_) (by decide) (by decide)
theorem sn_254 (hw : HW Z a0) : sl31 Z ≠ sl30 Z := slot_ne (a0 := a0) (Or.inl (w246 hw)) (Or.inr (w244 hw)) (by decide) (t := .int) (t' := .int) (by decide) (by decide)
theorem d333 : decode b28_ 19 = .ok (.aload_n 0, 1) := by decide +kernel
theorem d334 : decode b28_ 20 = .ok (.iconst 0, 1) := by decide +kernel
theorem d335 : decode b28_ 21 = .ok (.putfield 20, 3) := by decide +kernel
def w247 (hw : HW Z a0) := ow 247 hw rfl
theorem sn_255 (hw : HW Z a0) : sl32 Z ≠ sl29 Z := slot_ne (a0 := a0) (Or.inr (w248 hw)) (Or.inr (w242 hw)) (by decide) (t := .boolean) (t' := ft0_) (by decide) (by decide)
theorem sn_256 (hw : HW Z a0) : sl32 Z ≠ sl30 Z := slot_ne (a0 := a0) (Or.inr (w248 hw)) (Or.inr (w244 hw)) (by decide) (t := .boolean) (t' := .int) (by decide) (by decide)
theorem sn_257 (hw : HW Z a0) : sl32 Z ≠ sl31 Z := slot_ne (a0 := a0) (Or.inr (w248 hw)) (Or.inl (w246 hw)) (by decide) (t := .boolean) (t' := .int) (by decide) (by decide)
theorem d336 : decode b28_ 24 = .ok (.return_, 1) := by decide +kernel
theorem sn_258 (hw : HW Z a0) : sl29 Z ≠ sl30 Z := slot_ne (a0 := a0) (Or.inr (w242 hw)) (Or.inr (w244 hw)) (by decide) (t := ft0_) (t' := .int) (by decide) (by decide)
theorem sn_259 (hw : HW Z a0) : sl29 Z ≠ sl31 Z := slot_ne (a0 := a0) (Or.inr (w242 hw)) (Or.inl (w246 hw)) (by decide) (t := ft0_) (t' := .int) (by decide) (by decide)
theorem sn_260 (hw : HW Z a0) : sl29 Z ≠ sl32 Z := slot_ne (a0 := a0) (Or.inr (w242 hw)) (Or.inr (w248 hw)) (by decide) (t := ft0_) (t' := .boolean) (by decide) (by decide)
theorem sn_261 (hw : HW Z a0) : sl30 Z ≠ sl31 Z := slot_ne (a0 := a0) (Or.inr (w244 hw)) (Or.inl (w246 hw)) (by decide) (t := .int) (t' := .int) (by decide) (by decide)
theorem sn_262 (hw : HW Z a0) : sl30 Z ≠ sl32 Z := slot_ne (a0 := a0) (Or.inr (w244 hw)) (Or.inr (w248 hw)) (by decide) (t := .int) (t' := .boolean) (by decide) (by decide)
theorem sn_263 (hw : HW Z a0) : sl31 Z ≠ sl32 Z := slot_ne (a0 := a0) (Or.inl (w246 hw)) (Or.inr (w248 hw)) (by decide) (t := .int) (t' := .boolean) (by decide) (by decide)
theorem ef_10 (x0 x1 : Addr) (x2 : Int32) (m : MethodId) : entryFrame m #[(.ref x0), (.ref x1), (.int x2)] 3 = mkF m 0 #[.val (.ref x0), .val (.ref x1), .val (.int x2)] [] := by first | (simp [entryFrame, mkF, argsToLocals, Value.category]; done) | rfl
theorem pn_ImmutableCollections_ListItr797 : plainName "java/util/ImmutableCollections$ListItr" = true := by first | (simp [plainName, overriddenIn]; done) | decide +kernel
abbrev y24__init_ : MethodName := ⟨"java/util/ImmutableCollections$ListItr", "<init>", "(Ljava/util/List;I)V"⟩
def WS_r27__init_ (Z : State) (o0 : Addr) : List (Addr × Nat) := [(o0, (sl29 Z)), (o0, (sl30 Z)), (o0, (sl31 Z)), (o0, (sl32 Z))]
def Q_r27__init_ (Z : State) (o0 o1 : Addr) (h0 : Heap) (n0 : Nat) (v : Option Value) (h : Heap) (L : List Loc) : Prop := v = none ∧ Fr n0 L ∧ KL h0 h (WS_r27__init_ Z o0) ∧ Fd29 Z h o0 (.ref o1) ∧ Fd30 Z h o0 z0 ∧ Fd31 Z h o0 z0 ∧ Fd32 Z h o0 z0
theorem r27__init_ (l : Launch) (Z : State) (a0 : Array Value) (hw : HW Z a0) (ws : List Jvm.Cond) (o0 o1 : Addr) (h0 : Heap) (n0 : Nat) (Z0 : n0 ≤ h0.size) (F_o0_list : Fd29 Z h0 o0 .null) (E_o0 : Ex7 Z h0 o0) (g_o0 : n0 ≤ o0) (F_o0_size : Fd30 Z h0 o0 z0) (F_o0_cursor : Fd31 Z h0 o0 z0) (F_o0_isListIterator : Fd32 Z h0 o0 z0) :
    MF l Z y24__init_ b28_ 3 none ws ⟨1, 0, 0, 12⟩ #[(.ref o0), (.ref o1), z0] h0 (Q_r27__init_ Z o0 o1 h0 n0) := by
 refine own_body (plainFor_of_name pn_ImmutableCollections_ListItr797) (ef_10 o0 o1 (0 : Int32)) (by decide) (by decide) ?_
 intro p e s m below meth c s₁ hx hby hml hown hnm hret hZ hh e0 X0
 have N0 := Fr.nil n0
 obtain ⟨T1, X1, e1, st1⟩ := initO X0 hx hZ hown (w240 hw) (w13 hw) (w14 hw) e0 (g := (mkF m 1 #[vr o0, vr o1, vi 0] [(.ref o0)])) rfl hml.symm rfl (hb hby d323) (by decide) (W := 0) (own_wr rfl rfl) (by decide)
 obtain ⟨T2, h2, X2, e2, W2, st2⟩ := putF X1 hx hZ hown (host := "") (Or.inl (w241 hw)) Via.refl e1 F_o0_list E_o0 (Or.inr ⟨(w242 hw), rfl, hnm⟩) (w230 hw) (ty := (.object "java/util/List")) (by decide) rfl rfl (g := (mkF m 6 #[vr o0, vr o1, vi 0] [(.ref o1), (.ref o0)])) rfl rfl (hb hby d326)
 have K2 := KL.ofW W2
 have Fw2 : Fd29 Z h2 o0 (.ref o1) := Fld.same W2 F_o0_list
 have N2 := Fr.snoc X2 N0 g_o0
 have f3 := (kFld K2 F_o0_size (nwR (sn_252 hw) nw0))
 have f4 := (kExa K2 E_o0)
 obtain ⟨T5, h5, X5, e5, W5, st5⟩ := putF X2 hx hZ hown (host := "") (Or.inl (w243 hw)) Via.refl e2 f3 f4 (Or.inr ⟨(w244 hw), rfl, hnm⟩) (w230 hw) (ty := .int) (by decide) rfl rfl (g := (mkF m 11 #[vr o0, vr o1, vi 0] [z0, (.ref o0)])) rfl rfl (hb hby d329)
 have K5 := KL.ofW W5
 have Fw5 : Fd30 Z h5 o0 z0 := Fld.same W5 f3
 have N5 := Fr.snoc X5 N2 g_o0
 have f6 := (kFld K5 (kFld K2 F_o0_cursor (nwR (sn_253 hw) nw0)) (nwR (sn_254 hw) nw0))
 have f7 := (kExa K5 f4)
 obtain ⟨T8, h8, X8, e8, W8, st8⟩ := putF X5 hx hZ hown (host := "") (Or.inl (w245 hw)) Via.refl e5 f6 f7 (Or.inl (w246 hw)) (w230 hw) (ty := .int) (by decide) rfl rfl (g := (mkF m 16 #[vr o0, vr o1, vi 0] [z0, (.ref o0)])) rfl rfl (hb hby d332)
 have K8 := KL.ofW W8
 have Fw8 : Fd31 Z h8 o0 z0 := Fld.same W8 f6
 have N8 := Fr.snoc X8 N5 g_o0
 have f9 := (kFld K8 (kFld K5 (kFld K2 F_o0_isListIterator (nwR (sn_255 hw) nw0)) (nwR (sn_256 hw) nw0)) (nwR (sn_257 hw) nw0))
 have f10 := (kExa K8 f7)
 obtain ⟨T11, h11, X11, e11, W11, st11⟩ := putF X8 hx hZ hown (host := "") (Or.inl (w247 hw)) Via.refl e8 f9 f10 (Or.inr ⟨(w248 hw), rfl, hnm⟩) (w230 hw) (ty := .boolean) (by decide) (by decide) (by decide) (g := (mkF m 21 #[vr o0, vr o1, vi 0] [z0, (.ref o0)])) rfl rfl (hb hby d335)
 have K11 := KL.ofW W11
 have Fw11 : Fd32 Z h11 o0 z0 := Fld.same W11 f9
 have N11 := Fr.snoc X11 N8 g_o0
 have C0 := (KL.refl h0 (WS_r27__init_ Z o0)).trans K2 (naO (own_mi 0 rfl) na0)
 have C1 := C0.trans K5 (naO (own_mi 1 rfl) na0)
 have C2 := C1.trans K8 (naO (own_mi 2 rfl) na0)
 have C3 := C2.trans K11 (naO (own_mi 3 rfl) na0)
 have f12 := (kFld K11 (kFld K8 (kFld K5 Fw2 (nwR (sn_258 hw) nw0)) (nwR (sn_259 hw) nw0)) (nwR (sn_260 hw) nw0))
 have f13 := (kFld K11 (kFld K8 Fw5 (nwR (sn_261 hw) nw0)) (nwR (sn_262 hw) nw0))
 have f14 := (kFld K11 Fw8 (nwR (sn_263 hw) nw0))
 refine ⟨T11, _, none, X11, (fun h => by cases h <;> rfl), ?_, fun fs hr => ?_⟩
 · show Q_r27__init_ Z o0 o1 h0 n0 _ T11.heap _
   rw [e11]
   exact ⟨rfl, N11, C3, f12, f13, f14, Fw11⟩
 refine t_aloadN 1 X0.here hx hby d322 rfl rfl rfl ?_
 refine st1 _ ?_
 refine t_aloadN 5 X1.here hx hby d324 rfl rfl rfl ?_
 refine t_aloadN 6 X1.here hx hby d325 rfl rfl rfl ?_
 refine st2 _ ?_
 refine t_aloadN 10 X2.here hx hby d327 rfl rfl rfl ?_
 refine t_iloadN 11 X2.here hx hby d328 rfl rfl ?_
 refine st5 _ ?_
 refine t_aloadN 15 X5.here hx hby d330 rfl rfl rfl ?_
 refine t_iconst 16 (r := 0) X5.here hx hby d331 (by decide) rfl ?_
 refine st8 _ ?_
 refine t_aloadN 20 X8.here hx hby d333 rfl rfl rfl ?_
 refine t_iconst 21 (r := 0) X8.here hx hby d334 (by decide) rfl ?_
 refine st11 _ ?_
 exact X11.returnOut hx hret (hb hby d336) hr
def w239 (hw : HW Z a0) := ow 239 hw rfl
theorem pd_17 : parseMethodDescriptor "(Ljava/util/List;I)V" = some ⟨[(.object "java/util/List"), .int], none⟩ := by decide +kernel
def w237 (hw : HW Z a0) := ow 237 hw rfl
theorem d337 : decode b27_ 12 = .ok (.areturn, 1) := by decide +kernel
theorem pn_ImmutableCollections_AbstractImmutableList248 : plainName "java/util/ImmutableCollections$AbstractImmutableList" = true := by first | (simp [plainName, overriddenIn]; done) | decide +kernel
abbrev y25_iterator : MethodName := ⟨"java/util/ImmutableCollections$AbstractImmutableList", "iterator", "()Ljava/util/Iterator;"⟩
def Q_r26_iterator (Z : State) (o0 o_2 : Addr) (k_o_2 : ClassId) (h0 : Heap) (n0 : Nat) (v : Option Value) (h : Heap) (L : List Loc) : Prop := ∃ b1 : Addr, v = some (.ref b1) ∧ Fr n0 L ∧ KL h0 h [] ∧ h0.size ≤ b1 ∧ Ex7 Z h b1 ∧ Fd29 Z h b1 (.ref o0) ∧ Fd30 Z h b1 z0 ∧ Fd31 Z h b1 z0 ∧ Fd32 Z h b1 z0
theorem r26_iterator (l : Launch) (Z : State) (a0 : Array Value) (hw : HW Z a0) (ws : List Jvm.Cond) (o0 o_2 : Addr) (k_o_2 : ClassId) (h0 : Heap) (n0 : Nat) (Z0 : n0 ≤ h0.size) (E_o0 : Ex6 Z h0 o0) (F_o0_elements : Fd28 Z h0 o0 (.ref o_2)) (V_o_2 : Arv Z h0 o_2 k_o_2 (.object "java/lang/Object") (0 : Int32) [] .null) :
    MF l Z y25_iterator b27_ 1 (some (.object "java/util/Iterator")) ws ⟨2, 1, 4, 27⟩ #[(.ref o0)] h0 (Q_r26_iterator Z o0 o_2 k_o_2 h0 n0) := by
 refine own_body (plainFor_of_name pn_ImmutableCollections_AbstractImmutableList248) (ef_1 o0) (by decide) (by decide) ?_
 intro p e s m below meth c s₁ hx hby hml hown hnm hret hZ hh e0 X0
 have N0 := Fr.nil n0
 obtain ⟨T1, h1, X1, e1, E1, A1, D1, -, st1⟩ := newO X0 hx hZ hown (w229 hw) (w230 hw) (w231 hw) e0 (g := (mkF m 0 #[vr o0] [])) rfl (hb hby d316) (by decide) (by decide)
 obtain ⟨b1, g1⟩ : ∃ z, z = h0.size := ⟨_, rfl⟩
 rw [← g1] at A1 D1 st1
 have ge_b1 : h0.size ≤ b1 := Nat.le_of_eq g1.symm
 have K1 := KL.ofE E1
 have F_b1_list : Fd29 Z h1 b1 .null := D1 (Or.inr (w242 hw)) (ty := (.object "java/util/List")) (by decide)
 have F_b1_size : Fd30 Z h1 b1 z0 := D1 (Or.inr (w244 hw)) (ty := .int) (by decide)
 have F_b1_cursor : Fd31 Z h1 b1 z0 := D1 (Or.inl (w246 hw)) (ty := .int) (by decide)
 have F_b1_isListIterator : Fd32 Z h1 b1 z0 := D1 (Or.inr (w248 hw)) (ty := .boolean) (by decide)
 have f4 := (kFld K1 F_o0_elements nw0)
 have f5 := (kArv K1 V_o_2 na0)
 have f6 := (kExa K1 E_o0)
 obtain ⟨_, T3, L3, X3, hQ3, st3⟩ := own_virtualUp X1 hx hZ hown (w232 hw) (own_mvS hZ (w233 hw) (by decide)) (w234 hw) (by decide) (w235 hw) (w208 hw) (w212 hw) (w213 hw) (r24_size l Z a0 hw [] o0 o_2 k_o_2 h1 n0 (Nat.le_trans Z0 K1.1) f4 f5) e1 f6 (W := 3) (by decide) (g := (mkF m 6 #[vr o0] [(.ref o0), (.ref o0), (.ref b1), (.ref b1)])) rfl hml.symm (argsL := []) (rest := [(.ref o0), (.ref b1), (.ref b1)]) (lenOf pd_15 rfl) rfl rfl (own_wr rfl rfl) (hb hby d320)
 obtain ⟨rfl, N3q, e3⟩ := hQ3
 have N3 := Fr.app N0 N3q
 have gg8 := Nat.le_trans Z0 ge_b1
 obtain ⟨_, T7, L7, X7, hQ7, st7⟩ := own_init X3 hx hZ rfl hown (w236 hw) (w237 hw) (w231 hw) (w239 hw) (by decide) (r27__init_ l Z a0 hw [] b1 o0 h1 n0 (Nat.le_trans Z0 K1.1) F_b1_list A1 gg8 F_b1_size F_b1_cursor F_b1_isListIterator) e3 (W := 1) (by decide) (g := (mkF m 9 #[vr o0] [z0, (.ref o0), (.ref b1), (.ref b1)])) rfl hml.symm (argsL := [(.ref o0), z0]) (rest := [(.ref b1)]) (lenOf pd_17 rfl) rfl rfl (own_wr rfl rfl) (hb hby d321)
 obtain ⟨rfl, N7q, K7, Q7_0, Q7_1, Q7_2, Q7_3⟩ := hQ7
 have N7 := Fr.app N3 N7q
 have C0 := (KL.refl h0 []).trans K1 na0
 have C1 := C0.trans K7 (naOM 4 rfl ge_b1 na0)
 have f9 := (kExa K7 A1)
 refine ⟨T7, _, some (.ref b1), X7, (fun h => by cases h <;> rfl), ?_, fun fs hr => ?_⟩
 · show Q_r26_iterator Z o0 o_2 k_o_2 h0 n0 _ T7.heap _
   exact ⟨b1, rfl, N7, C1, ge_b1, f9, Q7_0, Q7_1, Q7_2, Q7_3⟩
 refine st1 _ ?_
 refine t_dup 4 X1.here hx hby d317 rfl rfl ?_
 refine t_aloadN 5 X1.here hx hby d318 rfl rfl rfl ?_
 refine t_aloadN 6 X1.here hx hby d319 rfl rfl rfl ?_
 refine st3 _ ?_
 refine st7 _ ?_
 jvm_step X7.here [X7.here.top, hx, (hb hby d337), X7.method', hret, Value.isRef, FieldType.isReference]
 first | (intro acts; rw [hr _ acts rfl rfl rfl]) | rw [hr _ _ rfl rfl rfl]
 exact Steps.refl _
def w228 (hw : HW Z a0) := ow 228 hw rfl
def w227 (hw : HW Z a0) := ow 227 hw rfl
theorem pd_18 : parseMethodDescriptor "()Ljava/util/Iterator;" = some ⟨[], some (.object "java/util/Iterator")⟩ := by decide +kernel
def w221 (hw : HW Z a0) := ow 221 hw rfl
def w222 (hw : HW Z a0) := ow 222 hw rfl
def w224 (hw : HW Z a0) := ow 224 hw rfl
def w225 (hw : HW Z a0) := ow 225 hw rfl
def w226 (hw : HW Z a0) := ow 226 hw rfl
theorem d338 : decode b26_ 9 = .ok (.astore_n 1, 1) := by decide +kernel
theorem d339 : decode b26_ 10 = .ok (.aload_n 1, 1) := by decide +kernel
theorem d340 : decode b26_ 11 = .ok (.invokeinterface 201 1, 5) := by decide +kernel
def w249 (hw : HW Z a0) := ow 249 hw rfl
def w252 (hw : HW Z a0) := ow 252 hw rfl
abbrev b29_ := jdk_53_method_3_code
theorem d341 : decode b29_ 0 = .ok (.aload_n 0, 1) := by decide +kernel
theorem d342 : decode b29_ 1 = .ok (.getfield 17, 3) := by decide +kernel
theorem d343 : decode b29_ 4 = .ok (.aload_n 0, 1) := by decide +kernel
theorem d344 : decode b29_ 5 = .ok (.getfield 13, 3) := by decide +kernel
theorem d345 : decode b29_ 8 = .ok (.if_icmp .eq 7, 3) := by decide +kernel
theorem d346 : decode b29_ 15 = .ok (.iconst 0, 1) := by decide +kernel
theorem d347 : decode b29_ 16 = .ok (.ireturn, 1) := by decide +kernel
abbrev y26_hasNext : MethodName := ⟨"java/util/ImmutableCollections$ListItr", "hasNext", "()Z"⟩
def Q_r28_hasNext (Z : State) (o0 : Addr) (h0 : Heap) (n0 : Nat) (v : Option Value) (h : Heap) (L : List Loc) : Prop := v = some z0 ∧ Fr n0 L ∧ h = h0
theorem r28_hasNext (l : Launch) (Z : State) (a0 : Array Value) (hw : HW Z a0) (ws : List Jvm.Cond) (o0 : Addr) (h0 : Heap) (n0 : Nat) (Z0 : n0 ≤ h0.size) (F_o0_cursor : Fd31 Z h0 o0 z0) (F_o0_size : Fd30 Z h0 o0 z0) :
    MF l Z y26_hasNext b29_ 1 (some .boolean) ws ⟨0, 0, 0, 0⟩ #[(.ref o0)] h0 (Q_r28_hasNext Z o0 h0 n0) := by
 refine own_body (plainFor_of_name pn_ImmutableCollections_ListItr797) (ef_1 o0) (by decide) (by decide) ?_
 intro p e s m below meth c s₁ hx hby hml hown hnm hret hZ hh e0 X0
 have N0 := Fr.nil n0
 obtain ⟨T1, X1, e1, st1⟩ := getF X0 hx hZ hown (host := "") (Or.inl (w245 hw)) Via.refl e0 F_o0_cursor (g := (mkF m 1 #[vr o0] [(.ref o0)])) rfl rfl (hb hby d342)
 obtain ⟨T2, X2, e2, st2⟩ := getF X1 hx hZ hown (host := "") (Or.inl (w243 hw)) Via.refl e1 F_o0_size (g := (mkF m 5 #[vr o0] [(.ref o0), z0])) rfl rfl (hb hby d344)
 refine ⟨T2, _, some z0, X2, (fun h => by cases h <;> rfl), ?_, fun fs hr => ?_⟩
 · show Q_r28_hasNext Z o0 h0 n0 _ T2.heap _
   rw [e2]
   exact ⟨rfl, N0, rfl⟩
 refine t_aloadN 1 X0.here hx hby d341 rfl rfl rfl ?_
 refine st1 _ ?_
 refine t_aloadN 5 X1.here hx hby d343 rfl rfl rfl ?_
 refine st2 _ ?_
 refine t_icmpYes (pc := 8) 15 X2.here hx hby d345 (by decide) (by decide) (by decide) ?_
 refine t_iconst 16 (r := 0) X2.here hx hby d346 (by decide) rfl ?_
 exact retN X2 hx (t := .boolean) hret (by simp) (hb hby d347) hr
def w257 (hw : HW Z a0) := ow 257 hw rfl
def w250 (hw : HW Z a0) := ow 250 hw rfl
def w251 (hw : HW Z a0) := ow 251 hw rfl
def w253 (hw : HW Z a0) := ow 253 hw rfl
def w254 (hw : HW Z a0) := ow 254 hw rfl
def w255 (hw : HW Z a0) := ow 255 hw rfl
def w256 (hw : HW Z a0) := ow 256 hw rfl
theorem d348 : decode b26_ 16 = .ok (.ifCond .eq 22, 3) := by decide +kernel
theorem d349 : decode b26_ 38 = .ok (.aload_n 0, 1) := by decide +kernel
theorem d350 : decode b26_ 39 = .ok (.getfield 82, 3) := by decide +kernel
theorem d351 : decode b26_ 42 = .ok (.invokeinterface 197 1, 5) := by decide +kernel
theorem d352 : decode b26_ 47 = .ok (.astore_n 1, 1) := by decide +kernel
theorem d353 : decode b26_ 48 = .ok (.aload_n 1, 1) := by decide +kernel
theorem d354 : decode b26_ 49 = .ok (.invokeinterface 201 1, 5) := by decide +kernel
theorem d355 : decode b26_ 54 = .ok (.ifCond .eq 20, 3) := by decide +kernel
theorem d356 : decode b26_ 74 = .ok (.return_, 1) := by decide +kernel
abbrev y27_announceChange : MethodName := ⟨"com/example/graft_container/graftcontainer/BeanDefinition", "announceChange", "()V"⟩
def Q_r25_announceChange (Z : State) (o0 o_1 o_3 : Addr) (k_o_3 : ClassId) (h0 : Heap) (n0 : Nat) (v : Option Value) (h : Heap) (L : List Loc) : Prop := v = none ∧ Fr n0 L ∧ KL h0 h []
theorem r25_announceChange (l : Launch) (Z : State) (a0 : Array Value) (hw : HW Z a0) (ws : List Jvm.Cond) (o0 o_1 o_3 : Addr) (k_o_3 : ClassId) (h0 : Heap) (n0 : Nat) (Z0 : n0 ≤ h0.size) (F_o0_changeListeners : Fd18 Z h0 o0 (.ref o_1)) (E_o_1 : Ex6 Z h0 o_1) (F_o_1_elements : Fd28 Z h0 o_1 (.ref o_3)) (V_o_3 : Arv Z h0 o_3 k_o_3 (.object "java/lang/Object") (0 : Int32) [] .null) (F_o0_outers : Fd19 Z h0 o0 (.ref o_1)) :
    MF l Z y27_announceChange b26_ 3 none ws ⟨3, 2, 8, 39⟩ #[(.ref o0)] h0 (Q_r25_announceChange Z o0 o_1 o_3 k_o_3 h0 n0) := by
 refine own_body (plainFor_of_name pn_BeanDefinition762) (ef_9 o0) (by decide) (by decide) ?_
 intro p e s m below meth c s₁ hx hby hml hown hnm hret hZ hh e0 X0
 have N0 := Fr.nil n0
 obtain ⟨T2, X2, e2, st2⟩ := getF X0 hx hZ hown (host := "") (Or.inl (w185 hw)) Via.refl e0 F_o0_changeListeners (g := (mkF m 1 #[vr o0, .unset, .unset] [(.ref o0)])) rfl rfl (hb hby d314)
 obtain ⟨_, T4, L4, X4, hQ4, st4⟩ := own_face X2 hx hZ hown (w220 hw) (w221 hw) (mvT hZ (w222 hw)) (w223 hw) (w224 hw) (w225 hw) (w226 hw) (w211 hw) (w227 hw) (w228 hw) (by decide) (r26_iterator l Z a0 hw [] o_1 o_3 k_o_3 h0 n0 Z0 E_o_1 F_o_1_elements V_o_3) e2 E_o_1 (W := 0) (by decide) (g := (mkF m 4 #[vr o0, .unset, .unset] [(.ref o_1)])) rfl hml.symm (argsL := []) (rest := []) (lenOf pd_18 rfl) rfl rfl (own_wr rfl rfl) (hb hby d315)
 obtain ⟨b1_4, rfl, N4q, K4, Q4_0, Q4_1, Q4_2, Q4_3, Q4_4, Q4_5⟩ := hQ4
 have N4 := Fr.app N0 N4q
 obtain ⟨_, T6, L6, X6, hQ6, st6⟩ := own_face X4 hx hZ hown (w249 hw) (w250 hw) (mvT hZ (w251 hw)) (w252 hw) (w253 hw) (w254 hw) (w255 hw) (w256 hw) (w231 hw) (w257 hw) (by decide) (r28_hasNext l Z a0 hw [] b1_4 T4.heap n0 (Nat.le_trans Z0 K4.1) Q4_4 Q4_3) rfl Q4_1 (W := 0) (by decide) (g := (mkF m 11 #[vr o0, vr b1_4, .unset] [(.ref b1_4)])) rfl hml.symm (argsL := []) (rest := []) (lenOf pd_16 rfl) rfl rfl (own_wr rfl rfl) (hb hby d340)
 obtain ⟨rfl, N6q, e6⟩ := hQ6
 have N6 := Fr.app N4 N6q
 have f7 := (kFld K4 F_o0_outers nw0)
 obtain ⟨T8, X8, e8, st8⟩ := getF X6 hx hZ hown (host := "") (Or.inl (w187 hw)) Via.refl e6 f7 (g := (mkF m 39 #[vr o0, vr b1_4, .unset] [(.ref o0)])) rfl rfl (hb hby d350)
 have f10 := (kExa K4 E_o_1)
 have f11 := (kFld K4 F_o_1_elements nw0)
 have f12 := (kArv K4 V_o_3 na0)
 obtain ⟨_, T9, L9, X9, hQ9, st9⟩ := own_face X8 hx hZ hown (w220 hw) (w221 hw) (mvT hZ (w222 hw)) (w223 hw) (w224 hw) (w225 hw) (w226 hw) (w211 hw) (w227 hw) (w228 hw) (by decide) (r26_iterator l Z a0 hw [] o_1 o_3 k_o_3 T4.heap n0 (Nat.le_trans Z0 K4.1) f10 f11 f12) e8 f10 (W := 0) (by decide) (g := (mkF m 42 #[vr o0, vr b1_4, .unset] [(.ref o_1)])) rfl hml.symm (argsL := []) (rest := []) (lenOf pd_18 rfl) rfl rfl (own_wr rfl rfl) (hb hby d351)
 obtain ⟨b1_9, rfl, N9q, K9, Q9_0, Q9_1, Q9_2, Q9_3, Q9_4, Q9_5⟩ := hQ9
 have N9 := Fr.app N6 N9q
 have sz_0_2 := (Nat.le_trans K4.1 K9.1)
 obtain ⟨_, T14, L14, X14, hQ14, st14⟩ := own_face X9 hx hZ hown (w249 hw) (w250 hw) (mvT hZ (w251 hw)) (w252 hw) (w253 hw) (w254 hw) (w255 hw) (w256 hw) (w231 hw) (w257 hw) (by decide) (r28_hasNext l Z a0 hw [] b1_9 T9.heap n0 (Nat.le_trans Z0 sz_0_2) Q9_4 Q9_3) rfl Q9_1 (W := 0) (by decide) (g := (mkF m 49 #[vr o0, vr b1_9, .unset] [(.ref b1_9)])) rfl hml.symm (argsL := []) (rest := []) (lenOf pd_16 rfl) rfl rfl (own_wr rfl rfl) (hb hby d354)
 obtain ⟨rfl, N14q, e14⟩ := hQ14
 have N14 := Fr.app N9 N14q
 have C0 := (KL.refl h0 []).trans K4 na0
 have C1 := C0.trans K9 na0
 refine ⟨T14, _, none, X14, (fun h => by cases h <;> rfl), ?_, fun fs hr => ?_⟩
 · show Q_r25_announceChange Z o0 o_1 o_3 k_o_3 h0 n0 _ T14.heap _
   rw [e14]
   exact ⟨rfl, N14, C1⟩
 refine t_aloadN 1 X0.here hx hby d313 rfl rfl rfl ?_
 refine st2 _ ?_
 refine st4 _ ?_
 refine t_astoreN (pc' := 10) (L' := #[vr o0, vr b1_4, .unset]) X4.here hx hby d338 rfl rfl rfl ?_
 refine t_aloadN 11 X4.here hx hby d339 rfl rfl rfl ?_
 refine st6 _ ?_
 refine t_ifYes (pc := 16) 38 X6.here hx hby d348 (by decide) (by decide) (by decide) ?_
 refine t_aloadN 39 X6.here hx hby d349 rfl rfl rfl ?_
 refine st8 _ ?_
 refine st9 _ ?_
 refine t_astoreN (pc' := 48) (L' := #[vr o0, vr b1_9, .unset]) X9.here hx hby d352 rfl rfl rfl ?_
 refine t_aloadN 49 X9.here hx hby d353 rfl rfl rfl ?_
 refine st14 _ ?_
 refine t_ifYes (pc := 54) 74 X14.here hx hby d355 (by decide) (by decide) (by decide) ?_
 exact X14.returnOut hx hret (hb hby d356) hr
def w219 (hw : HW Z a0) := ow 219 hw rfl
def w217 (hw : HW Z a0) := ow 217 hw rfl
def w218 (hw : HW Z a0) := ow 218 hw rfl
theorem d357 : decode b23_ 48 = .ok (.return_, 1) := by decide +kernel
abbrev y28_beginChange : MethodName := ⟨"com/example/graft_container/graftcontainer/BeanDefinition", "beginChange", "()V"⟩
def Q_r22_beginChange (Z : State) (o0 o_1 o_2 : Addr) (k_o_2 : ClassId) (h0 : Heap) (n0 : Nat) (v : Option Value) (h : Heap) (L : List Loc) : Prop := v = none ∧ Fr n0 L ∧ KL h0 h []
theorem r22_beginChange (l : Launch) (Z : State) (a0 : Array Value) (hw : HW Z a0) (ws : List Jvm.Cond) (o0 o_1 o_2 : Addr) (k_o_2 : ClassId) (h0 : Heap) (n0 : Nat) (Z0 : n0 ≤ h0.size) (E_o0 : Ex5 Z h0 o0) (F_o0_frozen : Fd20 Z h0 o0 z0) (F_o0_outers : Fd19 Z h0 o0 (.ref o_1)) (E_o_1 : Ex6 Z h0 o_1) (F_o_1_elements : Fd28 Z h0 o_1 (.ref o_2)) (V_o_2 : Arv Z h0 o_2 k_o_2 (.object "java/lang/Object") (0 : Int32) [] .null) (F_o0_changeListeners : Fd18 Z h0 o0 (.ref o_1)) :
    MF l Z y28_beginChange b23_ 2 none ws ⟨4, 2, 8, 53⟩ #[(.ref o0)] h0 (Q_r22_beginChange Z o0 o_1 o_2 k_o_2 h0 n0) := by
 refine own_body (plainFor_of_name pn_BeanDefinition762) (ef_8 o0) (by decide) (by decide) ?_
 intro p e s m below meth c s₁ hx hby hml hown hnm hret hZ hh e0 X0
 have N0 := Fr.nil n0
 obtain ⟨_, T3, L3, X3, hQ3, st3⟩ := own_private X0 hx hZ hown (w198 hw) (w199 hw) (w192 hw) rfl (w200 hw) (w33 hw) (w201 hw) (by decide) (r23_isFrozen l Z a0 hw [] o0 o_1 o_2 k_o_2 h0 n0 Z0 F_o0_frozen F_o0_outers E_o_1 F_o_1_elements V_o_2) e0 E_o0 (W := 0) (by decide) (g := (mkF m 1 #[vr o0, .unset] [(.ref o0)])) rfl hml.symm (argsL := []) (rest := []) (lenOf pd_16 rfl) rfl rfl (own_wr rfl rfl) (hb hby d293)
 obtain ⟨rfl, N3q, e3⟩ := hQ3
 have N3 := Fr.app N0 N3q
 obtain ⟨_, T4, L4, X4, hQ4, st4⟩ := own_private X3 hx hZ hown (w216 hw) (w217 hw) (w192 hw) rfl (w218 hw) (w33 hw) (w219 hw) (by decide) (r25_announceChange l Z a0 hw [] o0 o_1 o_2 k_o_2 h0 n0 Z0 F_o0_changeListeners E_o_1 F_o_1_elements V_o_2 F_o0_outers) e3 E_o0 (W := 0) (by decide) (g := (mkF m 45 #[vr o0, .unset] [(.ref o0)])) rfl hml.symm (argsL := []) (rest := []) (lenOf pd_9 rfl) rfl rfl (own_wr rfl rfl) (hb hby d312)
 obtain ⟨rfl, N4q, K4⟩ := hQ4
 have N4 := Fr.app N3 N4q
 have C0 := (KL.refl h0 []).trans K4 na0
 refine ⟨T4, _, none, X4, (fun h => by cases h <;> rfl), ?_, fun fs hr => ?_⟩
 · show Q_r22_beginChange Z o0 o_1 o_2 k_o_2 h0 n0 _ T4.heap _
   exact ⟨rfl, N4, C0⟩
 refine t_aloadN 1 X0.here hx hby d292 rfl rfl rfl ?_
 refine st3 _ ?_
 refine t_ifYes (pc := 4) 44 X3.here hx hby d310 (by decide) (by decide) (by decide) ?_
 refine t_aloadN 45 X3.here hx hby d311 rfl rfl rfl ?_
 refine st4 _ ?_
 exact X4.returnOut hx hret (hb hby d357) hr
def w197 (hw : HW Z a0) := ow 197 hw rfl
def w195 (hw : HW Z a0) := ow 195 hw rfl
def w196 (hw : HW Z a0) := ow 196 hw rfl
theorem d358 : decode b22_ 4 = .ok (.aload_n 0, 1) := by decide +kernel
theorem d359 : decode b22_ 5 = .ok (.aload_n 1, 1) := by decide +kernel
theorem d360 : decode b22_ 6 = .ok (.ldc 113, 2) := by decide +kernel
theorem d361 : decode b22_ 8 = .ok (.invokestatic 101, 3) := by decide +kernel
def w261 (hw : HW Z a0) := ow 261 hw rfl
abbrev b30_ := prog_7_method_59_code
theorem d362 : decode b30_ 0 = .ok (.aload_n 0, 1) := by decide +kernel
theorem d363 : decode b30_ 1 = .ok (.ifnull 19, 3) := by decide +kernel
theorem d364 : decode b30_ 4 = .ok (.aload_n 0, 1) := by decide +kernel
theorem d365 : decode b30_ 5 = .ok (.invokevirtual 345, 3) := by decide +kernel
def w264 (hw : HW Z a0) := ow 264 hw rfl
def w267 (hw : HW Z a0) := ow 267 hw rfl
abbrev b31_ := jdk_42_method_117_code
theorem d366 : decode b31_ 0 = .ok (.aload_n 0, 1) := by decide +kernel
theorem d367 : decode b31_ 1 = .ok (.invokevirtual 876, 3) := by decide +kernel
def w269 (hw : HW Z a0) := ow 269 hw rfl
abbrev b32_ := jdk_42_method_120_code
theorem d368 : decode b32_ 0 = .ok (.aload_n 0, 1) := by decide +kernel
theorem d369 : decode b32_ 1 = .ok (.invokevirtual 492, 3) := by decide +kernel
def w274 (hw : HW Z a0) := ow 274 hw rfl
def w277 (hw : HW Z a0) := ow 277 hw rfl
abbrev b33_ := jdk_42_method_154_code
theorem d370 : decode b33_ 0 = .ok (.getstatic 38, 3) := by decide +kernel
theorem d371 : decode b33_ 3 = .ok (.ifCond .eq 14, 3) := by decide +kernel
theorem d372 : decode b33_ 6 = .ok (.aload_n 0, 1) := by decide +kernel
theorem d373 : decode b33_ 7 = .ok (.getfield 15, 3) := by decide +kernel
theorem d374 : decode b33_ 10 = .ok (.ifCond .ne 7, 3) := by decide +kernel
theorem d375 : decode b33_ 13 = .ok (.iconst 1, 1) := by decide +kernel
theorem d376 : decode b33_ 14 = .ok (.goto 4, 3) := by decide +kernel
theorem d377 : decode b33_ 18 = .ok (.ireturn, 1) := by decide +kernel
abbrev y29_isLatin1 : MethodName := ⟨"java/lang/String", "isLatin1", "()Z"⟩
def Q_r32_isLatin1 (Z : State) (o0 : Addr) (i_1 : Int32) (h0 : Heap) (n0 : Nat) (v : Option Value) (h : Heap) (L : List Loc) : Prop := v = some (.int 1) ∧ Fr n0 L ∧ h = h0
theorem r32_isLatin1 (l : Launch) (Z : State) (a0 : Array Value) (hw : HW Z a0) (ws : List Jvm.Cond) (o0 : Addr) (i_1 : Int32) (h0 : Heap) (n0 : Nat) (Z0 : n0 ≤ h0.size) (sCS : SCS Z i_1) (O0 : Old Z n0 h0) (hp0 : ¬ (i_1 = (0 : Int32))) (F_o0_coder : Fd3 Z h0 o0 z0) :
    MF l Z y29_isLatin1 b33_ 1 (some .boolean) ws ⟨0, 0, 0, 0⟩ #[(.ref o0)] h0 (Q_r32_isLatin1 Z o0 i_1 h0 n0) := by
 refine own_body (plainFor_of_name pn_String564) (ef_1 o0) (by decide) (by decide) ?_
 intro p e s m below meth c s₁ hx hby hml hown hnm hret hZ hh e0 X0
 have N0 := Fr.nil n0
 obtain ⟨T2, X2, e2, st2⟩ := getS2 X0 hx hZ hown (host := "") (Or.inl (w15 hw)) Via.refl e0 (Sta.ext O0.2 sCS) (g := (mkF m 0 #[vr o0] [])) rfl (hb hby d370)
 obtain ⟨T3, X3, e3, st3⟩ := getF X2 hx hZ hown (host := "") (Or.inl (w27 hw)) Via.refl e2 F_o0_coder (g := (mkF m 7 #[vr o0] [(.ref o0)])) rfl rfl (hb hby d373)
 refine ⟨T3, _, some (.int 1), X3, (fun h => by cases h <;> rfl), ?_, fun fs hr => ?_⟩
 · show Q_r32_isLatin1 Z o0 i_1 h0 n0 _ T3.heap _
   rw [e3]
   exact ⟨rfl, N0, rfl⟩
 refine st2 _ ?_
 refine t_ifNo 6 X2.here hx hby d371 ((if0 _ _).trans (feq hp0).1) rfl ?_
 refine t_aloadN 7 X2.here hx hby d372 rfl rfl rfl ?_
 refine st3 _ ?_
 refine t_ifNo 13 X3.here hx hby d374 (by decide) rfl ?_
 refine t_iconst 14 (r := 1) X3.here hx hby d375 (by decide) rfl ?_
 refine t_goto (pc := 14) 18 X3.here hx hby d376 (by decide) (by decide) ?_
 exact retN X3 hx (t := .boolean) hret (by simp) (hb hby d377) hr
def w278 (hw : HW Z a0) := ow 278 hw rfl
def w275 (hw : HW Z a0) := ow 275 hw rfl
def w276 (hw : HW Z a0) := ow 276 hw rfl
theorem d378 : decode b32_ 4 = .ok (.ifCond .eq 13, 3) := by decide +kernel
theorem d379 : decode b32_ 7 = .ok (.aload_n 0, 1) := by decide +kernel
theorem d380 : decode b32_ 8 = .ok (.getfield 9, 3) := by decide +kernel
theorem d381 : decode b32_ 11 = .ok (.invokestatic 924, 3) := by decide +kernel
def w279 (hw : HW Z a0) := ow 279 hw rfl
abbrev b34_ := jdk_43_method_37_code
theorem d382 : decode b34_ 0 = .ok (.aload_n 0, 1) := by decide +kernel
theorem d383 : decode b34_ 1 = .ok (.arraylength, 1) := by decide +kernel
theorem d384 : decode b34_ 2 = .ok (.istore_n 1, 1) := by decide +kernel
theorem d385 : decode b34_ 3 = .ok (.iconst 0, 1) := by decide +kernel
theorem d386 : decode b34_ 4 = .ok (.istore_n 2, 1) := by decide +kernel
theorem d387 : decode b34_ 5 = .ok (.iload_n 2, 1) := by decide +kernel
theorem d388 : decode b34_ 6 = .ok (.iload_n 1, 1) := by decide +kernel
theorem d389 : decode b34_ 7 = .ok (.if_icmp .ge 40, 3) := by decide +kernel
theorem d390 : decode b34_ 10 = .ok (.aload_n 0, 1) := by decide +kernel
theorem d391 : decode b34_ 11 = .ok (.iload_n 2, 1) := by decide +kernel
theorem d392 : decode b34_ 12 = .ok (.invokestatic 50, 3) := by decide +kernel
def w283 (hw : HW Z a0) := ow 283 hw rfl
abbrev b35_ := jdk_43_method_44_code
theorem d393 : decode b35_ 0 = .ok (.aload_n 0, 1) := by decide +kernel
theorem d394 : decode b35_ 1 = .ok (.iload_n 1, 1) := by decide +kernel
theorem d395 : decode b35_ 2 = .ok (.baload, 1) := by decide +kernel
theorem d396 : decode b35_ 3 = .ok (.sipush 255, 3) := by decide +kernel
theorem d397 : decode b35_ 6 = .ok (.iand, 1) := by decide +kernel
theorem d398 : decode b35_ 7 = .ok (.i2c, 1) := by decide +kernel
theorem d399 : decode b35_ 8 = .ok (.ireturn, 1) := by decide +kernel
abbrev y30_getChar : MethodName := ⟨"java/lang/StringLatin1", "getChar", "([BI)C"⟩
def Q_r34_getChar (Z : State) (o0 : Addr) (i_1 i_2 : Int32) (k_o0 : ClassId) (h0 : Heap) (n0 : Nat) (v : Option Value) (h : Heap) (L : List Loc) : Prop := v = some (.int (i_1 &&& (255 : Int32))) ∧ Fr n0 L ∧ h = h0
theorem r34_getChar (l : Launch) (Z : State) (a0 : Array Value) (hw : HW Z a0) (ws : List Jvm.Cond) (o0 : Addr) (i_1 i_2 : Int32) (k_o0 : ClassId) (h0 : Heap) (n0 : Nat) (Z0 : n0 ≤ h0.size) (V_o0 : Arv Z h0 o0 k_o0 .byte 2 [(.int i_1), (.int i_2)] z0) :
    MF l Z y30_getChar b35_ 2 (some .char) ws ⟨0, 0, 0, 0⟩ #[(.ref o0), z0] h0 (Q_r34_getChar Z o0 i_1 i_2 k_o0 h0 n0) := by
 refine own_body (plainFor_of_name pn_StringLatin1120) (ef_5 o0 (0 : Int32)) (by decide) (by decide) ?_
 intro p e s m below meth c s₁ hx hby hml hown hnm hret hZ hh e0 X0
 have N0 := Fr.nil n0
 refine ⟨s₁, _, some (.int (i_1 &&& (255 : Int32))), X0, (fun h => by cases h <;> rfl), ?_, fun fs hr => ?_⟩
 · show Q_r34_getChar Z o0 i_1 i_2 k_o0 h0 n0 _ s₁.heap _
   rw [e0]
   exact ⟨rfl, N0, rfl⟩
 rw [← (show (nar .char (i_1 &&& (255 : Int32))) = (i_1 &&& (255 : Int32)) from (i2c_mask _))] at hr
 refine t_aloadN 1 X0.here hx hby d393 rfl rfl rfl ?_
 refine t_iloadN 2 X0.here hx hby d394 rfl rfl ?_
 refine own_aldB (pc' := 3) X0 hx hZ e0 V_o0 (j := 0) (v := (.int i_1)) (by decide) rfl (hb hby d395) rfl ?_
 refine t_sipush 6 (r := 255) X0.here hx hby d396 (by decide) rfl ?_
 refine t_iand 7 X0.here hx hby d397 rfl rfl ?_
 refine t_i2c 8 (r := (i_1 &&& (255 : Int32))) X0.here hx hby d398 (i2c_mask _) rfl ?_
 exact retN X0 hx (t := .char) hret (by simp) (hb hby d399) hr
def w285 (hw : HW Z a0) := ow 285 hw rfl
theorem pd_19 : parseMethodDescriptor "([BI)C" = some ⟨[(.array .byte), .int], some .char⟩ := by decide +kernel
def w284 (hw : HW Z a0) := ow 284 hw rfl
theorem d400 : decode b34_ 15 = .ok (.istore_n 3, 1) := by decide +kernel
theorem d401 : decode b34_ 16 = .ok (.iload_n 3, 1) := by decide +kernel
theorem d402 : decode b34_ 17 = .ok (.bipush 32, 2) := by decide +kernel
theorem d403 : decode b34_ 19 = .ok (.if_icmp .eq 22, 3) := by decide +kernel
theorem d404 : decode b34_ 22 = .ok (.iload_n 3, 1) := by decide +kernel
theorem d405 : decode b34_ 23 = .ok (.bipush 9, 2) := by decide +kernel
theorem d406 : decode b34_ 25 = .ok (.if_icmp .eq 16, 3) := by decide +kernel
theorem d407 : decode b34_ 28 = .ok (.getstatic 66, 3) := by decide +kernel
def w286 (hw : HW Z a0) := ow 286 hw rfl
theorem d408 : decode b34_ 31 = .ok (.iload_n 3, 1) := by decide +kernel
theorem d409 : decode b34_ 32 = .ok (.invokevirtual 211, 3) := by decide +kernel
def w288 (hw : HW Z a0) := ow 288 hw rfl
abbrev Ex8 (Z : State) (h : Heap) (a : Addr) : Prop := Exa Z h a "java/lang/CharacterDataLatin1"
def w291 (hw : HW Z a0) := ow 291 hw rfl
abbrev b36_ := jdk_116_method_26_code
theorem d410 : decode b36_ 0 = .ok (.aload_n 0, 1) := by decide +kernel
theorem d411 : decode b36_ 1 = .ok (.iload_n 1, 1) := by decide +kernel
theorem d412 : decode b36_ 2 = .ok (.invokevirtual 15, 3) := by decide +kernel
def w293 (hw : HW Z a0) := ow 293 hw rfl
def w296 (hw : HW Z a0) := ow 296 hw rfl
abbrev b37_ := jdk_116_method_1_code
theorem d413 : decode b37_ 0 = .ok (.iload_n 1, 1) := by decide +kernel
theorem d414 : decode b37_ 1 = .ok (.i2c, 1) := by decide +kernel
theorem d415 : decode b37_ 2 = .ok (.istore_n 2, 1) := by decide +kernel
theorem d416 : decode b37_ 3 = .ok (.getstatic 1, 3) := by decide +kernel
def w298 (hw : HW Z a0) := ow 298 hw rfl
theorem d417 : decode b37_ 6 = .ok (.iload_n 2, 1) := by decide +kernel
theorem d418 : decode b37_ 7 = .ok (.iaload, 1) := by decide +kernel
theorem d419 : decode b37_ 8 = .ok (.istore_n 3, 1) := by decide +kernel
theorem d420 : decode b37_ 9 = .ok (.iload_n 3, 1) := by decide +kernel
theorem d421 : decode b37_ 10 = .ok (.ireturn, 1) := by decide +kernel
theorem ef_11 (x0 : Addr) (x1 : Int32) (m : MethodId) : entryFrame m #[(.ref x0), (.int x1)] 4 = mkF m 0 #[.val (.ref x0), .val (.int x1), .unset, .unset] [] := by first | (simp [entryFrame, mkF, argsToLocals, Value.category]; done) | rfl
theorem pn_CharacterDataLatin1776 : plainName "java/lang/CharacterDataLatin1" = true := by first | (simp [plainName, overriddenIn]; done) | decide +kernel
abbrev y31_getProperties : MethodName := ⟨"java/lang/CharacterDataLatin1", "getProperties", "(I)I"⟩
def Q_r36_getProperties (Z : State) (o0 : Addr) (i_1 : Int32) (o_2 : Addr) (l_4 : List Value) (k_o_2 : ClassId) (h0 : Heap) (n0 : Nat) (v : Option Value) (h : Heap) (L : List Loc) : Prop := v = some (.int (own_ai l_4 i_1)) ∧ Fr n0 L ∧ h = h0
theorem r36_getProperties (l : Launch) (Z : State) (a0 : Array Value) (hw : HW Z a0) (ws : List Jvm.Cond) (o0 : Addr) (i_1 : Int32) (o_2 : Addr) (l_4 : List Value) (k_o_2 : ClassId) (h0 : Heap) (n0 : Nat) (Z0 : n0 ≤ h0.size) (hp0 : ¬ (i_1 < (0 : Int32))) (hp1 : ¬ ((255 : Int32) < i_1)) (S_A : Sa3 Z (.ref o_2)) (O0 : Old Z n0 h0) (V_o_2 : Arv Z h0 o_2 k_o_2 .int 256 l_4 z0) :
    MF l Z y31_getProperties b37_ 4 (some .int) ws ⟨0, 0, 0, 0⟩ #[(.ref o0), (.int i_1)] h0 (Q_r36_getProperties Z o0 i_1 o_2 l_4 k_o_2 h0 n0) := by
 refine own_body (plainFor_of_name pn_CharacterDataLatin1776) (ef_11 o0 i_1) (by decide) (by decide) ?_
 intro p e s m below meth c s₁ hx hby hml hown hnm hret hZ hh e0 X0
 have N0 := Fr.nil n0
 obtain ⟨T3, X3, e3, st3⟩ := getS2 X0 hx hZ hown (host := "") (Or.inl (w298 hw)) Via.refl e0 (Sta.ext O0.2 S_A) (g := (mkF m 3 #[vr o0, vi i_1, vi i_1, .unset] [])) rfl (hb hby d416)
 refine ⟨T3, _, some (.int (own_ai l_4 i_1)), X3, (fun h => by cases h <;> rfl), ?_, fun fs hr => ?_⟩
 · show Q_r36_getProperties Z o0 i_1 o_2 l_4 k_o_2 h0 n0 _ T3.heap _
   rw [e3]
   exact ⟨rfl, N0, rfl⟩
 refine t_iloadN 1 X0.here hx hby d413 rfl rfl ?_
 refine t_i2c 2 (r := i_1) X0.here hx hby d414 (own_c2c hp0 hp1) rfl ?_
 refine t_istoreN (pc' := 3) (L' := #[vr o0, vi i_1, vi i_1, .unset]) X0.here hx hby d415 rfl rfl ?_
 refine st3 _ ?_
 refine t_iloadN 7 X3.here hx hby d417 rfl rfl ?_
 refine own_aldI (pc' := 8) X3 hx hZ e3 V_o_2 (j := i_1) (v := (.int (own_ai l_4 i_1))) ⟨hp0, own_lt256 hp1⟩ (own_aiv V_o_2 ⟨hp0, own_lt256 hp1⟩) (hb hby d418) rfl ?_
 refine t_istoreN (pc' := 9) (L' := #[vr o0, vi i_1, vi i_1, vi ((own_ai l_4 i_1))]) X3.here hx hby d419 rfl rfl ?_
 refine t_iloadN 10 X3.here hx hby d420 rfl rfl ?_
 exact retI X3 hx hret (hb hby d421) hr
def w297 (hw : HW Z a0) := ow 297 hw rfl
def w287 (hw : HW Z a0) := ow 287 hw rfl
theorem pd_20 : parseMethodDescriptor "(I)I" = some ⟨[.int], some .int⟩ := by decide +kernel
def w294 (hw : HW Z a0) := ow 294 hw rfl
def w295 (hw : HW Z a0) := ow 295 hw rfl
theorem d422 : decode b36_ 5 = .ok (.istore_n 2, 1) := by decide +kernel
theorem d423 : decode b36_ 6 = .ok (.iload_n 2, 1) := by decide +kernel
theorem d424 : decode b36_ 7 = .ok (.sipush 28672, 3) := by decide +kernel
theorem d425 : decode b36_ 10 = .ok (.iand, 1) := by decide +kernel
theorem d426 : decode b36_ 11 = .ok (.sipush 16384, 3) := by decide +kernel
theorem d427 : decode b36_ 14 = .ok (.if_icmp .ne 7, 3) := by decide +kernel
theorem d428 : decode b36_ 21 = .ok (.iconst 0, 1) := by decide +kernel
theorem d429 : decode b36_ 22 = .ok (.ireturn, 1) := by decide +kernel
theorem ef_12 (x0 : Addr) (x1 : Int32) (m : MethodId) : entryFrame m #[(.ref x0), (.int x1)] 3 = mkF m 0 #[.val (.ref x0), .val (.int x1), .unset] [] := by first | (simp [entryFrame, mkF, argsToLocals, Value.category]; done) | rfl
abbrev y32_isWhitespace : MethodName := ⟨"java/lang/CharacterDataLatin1", "isWhitespace", "(I)Z"⟩
def Q_r35_isWhitespace (Z : State) (o0 : Addr) (i_1 : Int32) (o_2 : Addr) (l_3 : List Value) (k_o_2 : ClassId) (h0 : Heap) (n0 : Nat) (v : Option Value) (h : Heap) (L : List Loc) : Prop := v = some z0 ∧ Fr n0 L ∧ h = h0
theorem r35_isWhitespace (l : Launch) (Z : State) (a0 : Array Value) (hw : HW Z a0) (ws : List Jvm.Cond) (o0 : Addr) (i_1 : Int32) (o_2 : Addr) (l_3 : List Value) (k_o_2 : ClassId) (h0 : Heap) (n0 : Nat) (Z0 : n0 ≤ h0.size) (E_o0 : Ex8 Z h0 o0) (S_A : Sa3 Z (.ref o_2)) (V_o_2 : Arv Z h0 o_2 k_o_2 .int 256 l_3 z0) (hp0 : ¬ (i_1 < (0 : Int32))) (hp1 : ¬ ((255 : Int32) < i_1)) (O0 : Old Z n0 h0) (hp2 : ¬ (((own_ai l_3 i_1) &&& (28672 : Int32)) = (16384 : Int32))) :
    MF l Z y32_isWhitespace b36_ 3 (some .boolean) ws ⟨1, 0, 0, 15⟩ #[(.ref o0), (.int i_1)] h0 (Q_r35_isWhitespace Z o0 i_1 o_2 l_3 k_o_2 h0 n0) := by
 refine own_body (plainFor_of_name pn_CharacterDataLatin1776) (ef_12 o0 i_1) (by decide) (by decide) ?_
 intro p e s m below meth c s₁ hx hby hml hown hnm hret hZ hh e0 X0
 have N0 := Fr.nil n0
 obtain ⟨_, T4, L4, X4, hQ4, st4⟩ := own_virtual X0 hx hZ hown (w293 hw) (w294 hw) (nfS hZ (w296 hw)) (w296 hw) (w295 hw) (w287 hw) (w297 hw) (by decide) (r36_getProperties l Z a0 hw [] o0 i_1 o_2 l_3 k_o_2 h0 n0 Z0 hp0 hp1 S_A O0 V_o_2) e0 E_o0 (W := 0) (by decide) (g := (mkF m 2 #[vr o0, vi i_1, .unset] [(.int i_1), (.ref o0)])) rfl hml.symm (argsL := [(.int i_1)]) (rest := []) (lenOf pd_20 rfl) rfl rfl (own_wr rfl rfl) (hb hby d412)
 obtain ⟨rfl, N4q, e4⟩ := hQ4
 have N4 := Fr.app N0 N4q
 refine ⟨T4, _, some z0, X4, (fun h => by cases h <;> rfl), ?_, fun fs hr => ?_⟩
 · show Q_r35_isWhitespace Z o0 i_1 o_2 l_3 k_o_2 h0 n0 _ T4.heap _
   rw [e4]
   exact ⟨rfl, N4, rfl⟩
 refine t_aloadN 1 X0.here hx hby d410 rfl rfl rfl ?_
 refine t_iloadN 2 X0.here hx hby d411 rfl rfl ?_
 refine st4 _ ?_
 refine t_istoreN (pc' := 6) (L' := #[vr o0, vi i_1, vi ((own_ai l_3 i_1))]) X4.here hx hby d422 rfl rfl ?_
 refine t_iloadN 7 X4.here hx hby d423 rfl rfl ?_
 refine t_sipush 10 (r := 28672) X4.here hx hby d424 (by decide) rfl ?_
 refine t_iand 11 X4.here hx hby d425 rfl rfl ?_
 refine t_sipush 14 (r := 16384) X4.here hx hby d426 (by decide) rfl ?_
 refine t_icmpYes (pc := 14) 21 X4.here hx hby d427 (feq hp2).2 (by decide) (by decide) ?_
 refine t_iconst 22 (r := 0) X4.here hx hby d428 (by decide) rfl ?_
 exact retN X4 hx (t := .boolean) hret (by simp) (hb hby d429) hr
def w292 (hw : HW Z a0) := ow 292 hw rfl
theorem pd_21 : parseMethodDescriptor "(I)Z" = some ⟨[.int], some .boolean⟩ := by decide +kernel
def w289 (hw : HW Z a0) := ow 289 hw rfl
def w290 (hw : HW Z a0) := ow 290 hw rfl
theorem d430 : decode b34_ 35 = .ok (.ifCond .ne 6, 3) := by decide +kernel
theorem d431 : decode b34_ 38 = .ok (.goto 9, 3) := by decide +kernel
theorem d432 : decode b34_ 47 = .ok (.iload_n 2, 1) := by decide +kernel
theorem d433 : decode b34_ 48 = .ok (.ireturn, 1) := by decide +kernel
theorem ef_13 (x0 : Addr) (m : MethodId) : entryFrame m #[(.ref x0)] 4 = mkF m 0 #[.val (.ref x0), .unset, .unset, .unset] [] := by first | (simp [entryFrame, mkF, argsToLocals, Value.category]; done) | rfl
abbrev y33_indexOfNonWhitespace : MethodName := ⟨"java/lang/StringLatin1", "indexOfNonWhitespace", "([B)I"⟩
def Q_r33_indexOfNonWhitespace (Z : State) (o0 : Addr) (i_1 i_2 : Int32) (k_o0 : ClassId) (o_4 o_6 : Addr) (l_7 : List Value) (k_o_6 : ClassId) (h0 : Heap) (n0 : Nat) (v : Option Value) (h : Heap) (L : List Loc) : Prop := v = some z0 ∧ Fr n0 L ∧ h = h0
theorem r33_indexOfNonWhitespace (l : Launch) (Z : State) (a0 : Array Value) (hw : HW Z a0) (ws : List Jvm.Cond) (o0 : Addr) (i_1 i_2 : Int32) (k_o0 : ClassId) (o_4 o_6 : Addr) (l_7 : List Value) (k_o_6 : ClassId) (h0 : Heap) (n0 : Nat) (Z0 : n0 ≤ h0.size) (V_o0 : Arv Z h0 o0 k_o0 .byte 2 [(.int i_1), (.int i_2)] z0) (hp0 : ¬ ((i_1 &&& (255 : Int32)) = (32 : Int32))) (hp1 : ¬ ((i_1 &&& (255 : Int32)) = (9 : Int32))) (S_instance : Sa4 Z (.ref o_4)) (O0 : Old Z n0 h0) (E_o_4 : Ex8 Z h0 o_4) (S_A : Sa3 Z (.ref o_6)) (V_o_6 : Arv Z h0 o_6 k_o_6 .int 256 l_7 z0) (hp2 : ¬ (((own_ai l_7 (i_1 &&& (255 : Int32))) &&& (28672 : Int32)) = (16384 : Int32))) :
    MF l Z y33_indexOfNonWhitespace b34_ 4 (some .int) ws ⟨2, 0, 0, 29⟩ #[(.ref o0)] h0 (Q_r33_indexOfNonWhitespace Z o0 i_1 i_2 k_o0 o_4 o_6 l_7 k_o_6 h0 n0) := by
 refine own_body (plainFor_of_name pn_StringLatin1120) (ef_13 o0) (by decide) (by decide) ?_
 intro p e s m below meth c s₁ hx hby hml hown hnm hret hZ hh e0 X0
 have N0 := Fr.nil n0
 obtain ⟨_, T3, L3, X3, hQ3, st3⟩ := own_static X0 hx hZ hown (w283 hw) (w284 hw) (w281 hw) (w285 hw) (by decide) (r34_getChar l Z a0 hw [] o0 i_1 i_2 k_o0 h0 n0 Z0 V_o0) e0 (W := 0) (by decide) (g := (mkF m 12 #[vr o0, vi 2, vi 0, .unset] [z0, (.ref o0)])) rfl hml.symm (argsL := [(.ref o0), z0]) (rest := []) (lenOf pd_19 rfl) rfl rfl (own_wr rfl rfl) (hb hby d392)
 obtain ⟨rfl, N3q, e3⟩ := hQ3
 have N3 := Fr.app N0 N3q
 obtain ⟨T5, X5, e5, st5⟩ := getS2 X3 hx hZ hown (host := "") (Or.inl (w286 hw)) Via.refl e3 (Sta.ext O0.2 S_instance) (g := (mkF m 28 #[vr o0, vi 2, vi 0, vi ((i_1 &&& (255 : Int32)))] [])) rfl (hb hby d407)
 obtain ⟨_, T8, L8, X8, hQ8, st8⟩ := own_virtual X5 hx hZ hown (w288 hw) (w289 hw) (nfS hZ (w291 hw)) (w291 hw) (w290 hw) (w287 hw) (w292 hw) (by decide) (r35_isWhitespace l Z a0 hw [] o_4 (i_1 &&& (255 : Int32)) o_6 l_7 k_o_6 h0 n0 Z0 E_o_4 S_A V_o_6 (own_m255a _) (own_m255b _) O0 hp2) e5 E_o_4 (W := 0) (by decide) (g := (mkF m 32 #[vr o0, vi 2, vi 0, vi ((i_1 &&& (255 : Int32)))] [(.int (i_1 &&& (255 : Int32))), (.ref o_4)])) rfl hml.symm (argsL := [(.int (i_1 &&& (255 : Int32)))]) (rest := []) (lenOf pd_21 rfl) rfl rfl (own_wr rfl rfl) (hb hby d409)
 obtain ⟨rfl, N8q, e8⟩ := hQ8
 have N8 := Fr.app N3 N8q
 refine ⟨T8, _, some z0, X8, (fun h => by cases h <;> rfl), ?_, fun fs hr => ?_⟩
 · show Q_r33_indexOfNonWhitespace Z o0 i_1 i_2 k_o0 o_4 o_6 l_7 k_o_6 h0 n0 _ T8.heap _
   rw [e8]
   exact ⟨rfl, N8, rfl⟩
 refine t_aloadN 1 X0.here hx hby d382 rfl rfl rfl ?_
 refine own_arlen (pc' := 2) X0 hx hZ e0 V_o0 (hb hby d383) rfl ?_
 refine t_istoreN (pc' := 3) (L' := #[vr o0, vi 2, .unset, .unset]) X0.here hx hby d384 rfl rfl ?_
 refine t_iconst 4 (r := 0) X0.here hx hby d385 (by decide) rfl ?_
 refine t_istoreN (pc' := 5) (L' := #[vr o0, vi 2, vi 0, .unset]) X0.here hx hby d386 rfl rfl ?_
 refine t_iloadN 6 X0.here hx hby d387 rfl rfl ?_
 refine t_iloadN 7 X0.here hx hby d388 rfl rfl ?_
 refine t_icmpNo 10 X0.here hx hby d389 (by decide) rfl ?_
 refine t_aloadN 11 X0.here hx hby d390 rfl rfl rfl ?_
 refine t_iloadN 12 X0.here hx hby d391 rfl rfl ?_
 refine st3 _ ?_
 refine t_istoreN (pc' := 16) (L' := #[vr o0, vi 2, vi 0, vi ((i_1 &&& (255 : Int32)))]) X3.here hx hby d400 rfl rfl ?_
 refine t_iloadN 17 X3.here hx hby d401 rfl rfl ?_
 refine t_bipush 19 (r := 32) X3.here hx hby d402 (by decide) rfl ?_
 refine t_icmpNo 22 X3.here hx hby d403 (feq hp0).1 rfl ?_
 refine t_iloadN 23 X3.here hx hby d404 rfl rfl ?_
 refine t_bipush 25 (r := 9) X3.here hx hby d405 (by decide) rfl ?_
 refine t_icmpNo 28 X3.here hx hby d406 (feq hp1).1 rfl ?_
 refine st5 _ ?_
 refine t_iloadN 32 X5.here hx hby d408 rfl rfl ?_
 refine st8 _ ?_
 refine t_ifNo 38 X8.here hx hby d430 (by decide) rfl ?_
 refine t_goto (pc := 38) 47 X8.here hx hby d431 (by decide) (by decide) ?_
 refine t_iloadN 48 X8.here hx hby d432 rfl rfl ?_
 exact retI X8 hx hret (hb hby d433) hr
def w282 (hw : HW Z a0) := ow 282 hw rfl
theorem pd_22 : parseMethodDescriptor "([B)I" = some ⟨[(.array .byte)], some .int⟩ := by decide +kernel
def w280 (hw : HW Z a0) := ow 280 hw rfl
theorem d434 : decode b32_ 14 = .ok (.goto 10, 3) := by decide +kernel
theorem d435 : decode b32_ 24 = .ok (.ireturn, 1) := by decide +kernel
abbrev y34_indexOfNonWhitespace : MethodName := ⟨"java/lang/String", "indexOfNonWhitespace", "()I"⟩
def Q_r31_indexOfNonWhitespace (Z : State) (o0 : Addr) (i_1 : Int32) (o_3 : Addr) (i_5 i_6 : Int32) (k_o_3 : ClassId) (o_7 o_8 : Addr) (l_9 : List Value) (k_o_8 : ClassId) (h0 : Heap) (n0 : Nat) (v : Option Value) (h : Heap) (L : List Loc) : Prop := v = some z0 ∧ Fr n0 L ∧ h = h0
theorem r31_indexOfNonWhitespace (l : Launch) (Z : State) (a0 : Array Value) (hw : HW Z a0) (ws : List Jvm.Cond) (o0 : Addr) (i_1 : Int32) (o_3 : Addr) (i_5 i_6 : Int32) (k_o_3 : ClassId) (o_7 o_8 : Addr) (l_9 : List Value) (k_o_8 : ClassId) (h0 : Heap) (n0 : Nat) (Z0 : n0 ≤ h0.size) (E_o0 : Ex4 Z h0 o0) (sCS : SCS Z i_1) (F_o0_coder : Fd3 Z h0 o0 z0) (O0 : Old Z n0 h0) (hp0 : ¬ (i_1 = (0 : Int32))) (F_o0_value : Fd4 Z h0 o0 (.ref o_3)) (V_o_3 : Arv Z h0 o_3 k_o_3 .byte 2 [(.int i_5), (.int i_6)] z0) (S_instance : Sa4 Z (.ref o_7)) (E_o_7 : Ex8 Z h0 o_7) (S_A : Sa3 Z (.ref o_8)) (V_o_8 : Arv Z h0 o_8 k_o_8 .int 256 l_9 z0) (hp1 : ¬ ((i_5 &&& (255 : Int32)) = (32 : Int32))) (hp2 : ¬ ((i_5 &&& (255 : Int32)) = (9 : Int32))) (hp3 : ¬ (((own_ai l_9 (i_5 &&& (255 : Int32))) &&& (28672 : Int32)) = (16384 : Int32))) :
    MF l Z y34_indexOfNonWhitespace b32_ 1 (some .int) ws ⟨3, 0, 0, 44⟩ #[(.ref o0)] h0 (Q_r31_indexOfNonWhitespace Z o0 i_1 o_3 i_5 i_6 k_o_3 o_7 o_8 l_9 k_o_8 h0 n0) := by
 refine own_body (plainFor_of_name pn_String564) (ef_1 o0) (by decide) (by decide) ?_
 intro p e s m below meth c s₁ hx hby hml hown hnm hret hZ hh e0 X0
 have N0 := Fr.nil n0
 obtain ⟨_, T2, L2, X2, hQ2, st2⟩ := own_virtual X0 hx hZ hown (w274 hw) (w275 hw) (nfS hZ (w277 hw)) (w277 hw) (w276 hw) (w4 hw) (w278 hw) (by decide) (r32_isLatin1 l Z a0 hw [] o0 i_1 h0 n0 Z0 sCS O0 hp0 F_o0_coder) e0 E_o0 (W := 0) (by decide) (g := (mkF m 1 #[vr o0] [(.ref o0)])) rfl hml.symm (argsL := []) (rest := []) (lenOf pd_16 rfl) rfl rfl (own_wr rfl rfl) (hb hby d369)
 obtain ⟨rfl, N2q, e2⟩ := hQ2
 have N2 := Fr.app N0 N2q
 obtain ⟨T4, X4, e4, st4⟩ := getF X2 hx hZ hown (host := "") (Or.inl (w29 hw)) Via.refl e2 F_o0_value (g := (mkF m 8 #[vr o0] [(.ref o0)])) rfl rfl (hb hby d380)
 obtain ⟨_, T10, L10, X10, hQ10, st10⟩ := own_static X4 hx hZ hown (w279 hw) (w280 hw) (w281 hw) (w282 hw) (by decide) (r33_indexOfNonWhitespace l Z a0 hw [] o_3 i_5 i_6 k_o_3 o_7 o_8 l_9 k_o_8 h0 n0 Z0 V_o_3 hp1 hp2 S_instance O0 E_o_7 S_A V_o_8 hp3) e4 (W := 0) (by decide) (g := (mkF m 11 #[vr o0] [(.ref o_3)])) rfl hml.symm (argsL := [(.ref o_3)]) (rest := []) (lenOf pd_22 rfl) rfl rfl (own_wr rfl rfl) (hb hby d381)
 obtain ⟨rfl, N10q, e10⟩ := hQ10
 have N10 := Fr.app N2 N10q
 refine ⟨T10, _, some z0, X10, (fun h => by cases h <;> rfl), ?_, fun fs hr => ?_⟩
 · show Q_r31_indexOfNonWhitespace Z o0 i_1 o_3 i_5 i_6 k_o_3 o_7 o_8 l_9 k_o_8 h0 n0 _ T10.heap _
   rw [e10]
   exact ⟨rfl, N10, rfl⟩
 refine t_aloadN 1 X0.here hx hby d368 rfl rfl rfl ?_
 refine st2 _ ?_
 refine t_ifNo 7 X2.here hx hby d378 (by decide) rfl ?_
 refine t_aloadN 8 X2.here hx hby d379 rfl rfl rfl ?_
 refine st4 _ ?_
 refine st10 _ ?_
 refine t_goto (pc := 14) 24 X10.here hx hby d434 (by decide) (by decide) ?_
 exact retI X10 hx hret (hb hby d435) hr
def w273 (hw : HW Z a0) := ow 273 hw rfl
def w270 (hw : HW Z a0) := ow 270 hw rfl
def w271 (hw : HW Z a0) := ow 271 hw rfl
theorem d436 : decode b31_ 4 = .ok (.aload_n 0, 1) := by decide +kernel
theorem d437 : decode b31_ 5 = .ok (.invokevirtual 505, 3) := by decide +kernel
def w299 (hw : HW Z a0) := ow 299 hw rfl
def w302 (hw : HW Z a0) := ow 302 hw rfl
abbrev b38_ := jdk_42_method_54_code
theorem d438 : decode b38_ 0 = .ok (.aload_n 0, 1) := by decide +kernel
theorem d439 : decode b38_ 1 = .ok (.getfield 9, 3) := by decide +kernel
theorem d440 : decode b38_ 4 = .ok (.arraylength, 1) := by decide +kernel
theorem d441 : decode b38_ 5 = .ok (.aload_n 0, 1) := by decide +kernel
theorem d442 : decode b38_ 6 = .ok (.invokevirtual 335, 3) := by decide +kernel
def w304 (hw : HW Z a0) := ow 304 hw rfl
def w307 (hw : HW Z a0) := ow 307 hw rfl
abbrev b39_ := jdk_42_method_152_code
theorem d443 : decode b39_ 0 = .ok (.getstatic 38, 3) := by decide +kernel
theorem d444 : decode b39_ 3 = .ok (.ifCond .eq 10, 3) := by decide +kernel
theorem d445 : decode b39_ 6 = .ok (.aload_n 0, 1) := by decide +kernel
theorem d446 : decode b39_ 7 = .ok (.getfield 15, 3) := by decide +kernel
theorem d447 : decode b39_ 10 = .ok (.goto 4, 3) := by decide +kernel
theorem d448 : decode b39_ 14 = .ok (.ireturn, 1) := by decide +kernel
abbrev y35_coder : MethodName := ⟨"java/lang/String", "coder", "()B"⟩
def Q_r38_coder (Z : State) (o0 : Addr) (i_1 : Int32) (h0 : Heap) (n0 : Nat) (v : Option Value) (h : Heap) (L : List Loc) : Prop := v = some z0 ∧ Fr n0 L ∧ h = h0
theorem r38_coder (l : Launch) (Z : State) (a0 : Array Value) (hw : HW Z a0) (ws : List Jvm.Cond) (o0 : Addr) (i_1 : Int32) (h0 : Heap) (n0 : Nat) (Z0 : n0 ≤ h0.size) (sCS : SCS Z i_1) (O0 : Old Z n0 h0) (hp0 : ¬ (i_1 = (0 : Int32))) (F_o0_coder : Fd3 Z h0 o0 z0) :
    MF l Z y35_coder b39_ 1 (some .byte) ws ⟨0, 0, 0, 0⟩ #[(.ref o0)] h0 (Q_r38_coder Z o0 i_1 h0 n0) := by
 refine own_body (plainFor_of_name pn_String564) (ef_1 o0) (by decide) (by decide) ?_
 intro p e s m below meth c s₁ hx hby hml hown hnm hret hZ hh e0 X0
 have N0 := Fr.nil n0
 obtain ⟨T2, X2, e2, st2⟩ := getS2 X0 hx hZ hown (host := "") (Or.inl (w15 hw)) Via.refl e0 (Sta.ext O0.2 sCS) (g := (mkF m 0 #[vr o0] [])) rfl (hb hby d443)
 obtain ⟨T3, X3, e3, st3⟩ := getF X2 hx hZ hown (host := "") (Or.inl (w27 hw)) Via.refl e2 F_o0_coder (g := (mkF m 7 #[vr o0] [(.ref o0)])) rfl rfl (hb hby d446)
 refine ⟨T3, _, some z0, X3, (fun h => by cases h <;> rfl), ?_, fun fs hr => ?_⟩
 · show Q_r38_coder Z o0 i_1 h0 n0 _ T3.heap _
   rw [e3]
   exact ⟨rfl, N0, rfl⟩
 refine st2 _ ?_
 refine t_ifNo 6 X2.here hx hby d444 ((if0 _ _).trans (feq hp0).1) rfl ?_
 refine t_aloadN 7 X2.here hx hby d445 rfl rfl rfl ?_
 refine st3 _ ?_
 refine t_goto (pc := 10) 14 X3.here hx hby d447 (by decide) (by decide) ?_
 exact retN X3 hx (t := .byte) hret (by simp) (hb hby d448) hr
def w308 (hw : HW Z a0) := ow 308 hw rfl
theorem pd_23 : parseMethodDescriptor "()B" = some ⟨[], some .byte⟩ := by decide +kernel
def w305 (hw : HW Z a0) := ow 305 hw rfl
def w306 (hw : HW Z a0) := ow 306 hw rfl
theorem d449 : decode b38_ 9 = .ok (.ishr, 1) := by decide +kernel
theorem d450 : decode b38_ 10 = .ok (.ireturn, 1) := by decide +kernel
abbrev y36_length : MethodName := ⟨"java/lang/String", "length", "()I"⟩
def Q_r37_length (Z : State) (o0 o_1 : Addr) (i_3 i_4 : Int32) (k_o_1 : ClassId) (i_5 : Int32) (h0 : Heap) (n0 : Nat) (v : Option Value) (h : Heap) (L : List Loc) : Prop := v = some (.int 2) ∧ Fr n0 L ∧ h = h0
theorem r37_length (l : Launch) (Z : State) (a0 : Array Value) (hw : HW Z a0) (ws : List Jvm.Cond) (o0 o_1 : Addr) (i_3 i_4 : Int32) (k_o_1 : ClassId) (i_5 : Int32) (h0 : Heap) (n0 : Nat) (Z0 : n0 ≤ h0.size) (F_o0_value : Fd4 Z h0 o0 (.ref o_1)) (V_o_1 : Arv Z h0 o_1 k_o_1 .byte 2 [(.int i_3), (.int i_4)] z0) (E_o0 : Ex4 Z h0 o0) (sCS : SCS Z i_5) (F_o0_coder : Fd3 Z h0 o0 z0) (O0 : Old Z n0 h0) (hp0 : ¬ (i_5 = (0 : Int32))) :
    MF l Z y36_length b38_ 1 (some .int) ws ⟨1, 0, 0, 13⟩ #[(.ref o0)] h0 (Q_r37_length Z o0 o_1 i_3 i_4 k_o_1 i_5 h0 n0) := by
 refine own_body (plainFor_of_name pn_String564) (ef_1 o0) (by decide) (by decide) ?_
 intro p e s m below meth c s₁ hx hby hml hown hnm hret hZ hh e0 X0
 have N0 := Fr.nil n0
 obtain ⟨T2, X2, e2, st2⟩ := getF X0 hx hZ hown (host := "") (Or.inl (w29 hw)) Via.refl e0 F_o0_value (g := (mkF m 1 #[vr o0] [(.ref o0)])) rfl rfl (hb hby d439)
 obtain ⟨_, T6, L6, X6, hQ6, st6⟩ := own_virtual X2 hx hZ hown (w304 hw) (w305 hw) (nfS hZ (w307 hw)) (w307 hw) (w306 hw) (w4 hw) (w308 hw) (by decide) (r38_coder l Z a0 hw [] o0 i_5 h0 n0 Z0 sCS O0 hp0 F_o0_coder) e2 E_o0 (W := 1) (by decide) (g := (mkF m 6 #[vr o0] [(.ref o0), (.int 2)])) rfl hml.symm (argsL := []) (rest := [(.int 2)]) (lenOf pd_23 rfl) rfl rfl (own_wr rfl rfl) (hb hby d442)
 obtain ⟨rfl, N6q, e6⟩ := hQ6
 have N6 := Fr.app N0 N6q
 refine ⟨T6, _, some (.int 2), X6, (fun h => by cases h <;> rfl), ?_, fun fs hr => ?_⟩
 · show Q_r37_length Z o0 o_1 i_3 i_4 k_o_1 i_5 h0 n0 _ T6.heap _
   rw [e6]
   exact ⟨rfl, N6, rfl⟩
 refine t_aloadN 1 X0.here hx hby d438 rfl rfl rfl ?_
 refine st2 _ ?_
 refine own_arlen (pc' := 5) X2 hx hZ e2 V_o_1 (hb hby d440) rfl ?_
 refine t_aloadN 6 X2.here hx hby d441 rfl rfl rfl ?_
 refine st6 _ ?_
 refine t_ishr 10 (r := 2) X6.here hx hby d449 (by decide : ((2 : Int32) >>> ((0 : Int32) &&& 31)) = (2 : Int32)) rfl ?_
 exact retI X6 hx hret (hb hby d450) hr
def w303 (hw : HW Z a0) := ow 303 hw rfl
def w300 (hw : HW Z a0) := ow 300 hw rfl
def w301 (hw : HW Z a0) := ow 301 hw rfl
theorem d451 : decode b31_ 8 = .ok (.if_icmp .ne 7, 3) := by decide +kernel
theorem d452 : decode b31_ 15 = .ok (.iconst 0, 1) := by decide +kernel
theorem d453 : decode b31_ 16 = .ok (.ireturn, 1) := by decide +kernel
abbrev y37_isBlank : MethodName := ⟨"java/lang/String", "isBlank", "()Z"⟩
def Q_r30_isBlank (Z : State) (o0 : Addr) (i_1 : Int32) (o_2 : Addr) (i_3 i_4 : Int32) (k_o_2 : ClassId) (o_5 o_6 : Addr) (l_7 : List Value) (k_o_6 : ClassId) (h0 : Heap) (n0 : Nat) (v : Option Value) (h : Heap) (L : List Loc) : Prop := v = some z0 ∧ Fr n0 L ∧ h = h0
theorem r30_isBlank (l : Launch) (Z : State) (a0 : Array Value) (hw : HW Z a0) (ws : List Jvm.Cond) (o0 : Addr) (i_1 : Int32) (o_2 : Addr) (i_3 i_4 : Int32) (k_o_2 : ClassId) (o_5 o_6 : Addr) (l_7 : List Value) (k_o_6 : ClassId) (h0 : Heap) (n0 : Nat) (Z0 : n0 ≤ h0.size) (E_o0 : Ex4 Z h0 o0) (sCS : SCS Z i_1) (F_o0_coder : Fd3 Z h0 o0 z0) (F_o0_value : Fd4 Z h0 o0 (.ref o_2)) (V_o_2 : Arv Z h0 o_2 k_o_2 .byte 2 [(.int i_3), (.int i_4)] z0) (S_instance : Sa4 Z (.ref o_5)) (E_o_5 : Ex8 Z h0 o_5) (S_A : Sa3 Z (.ref o_6)) (V_o_6 : Arv Z h0 o_6 k_o_6 .int 256 l_7 z0) (O0 : Old Z n0 h0) (hp0 : ¬ (i_1 = (0 : Int32))) (hp1 : ¬ ((i_3 &&& (255 : Int32)) = (32 : Int32))) (hp2 : ¬ ((i_3 &&& (255 : Int32)) = (9 : Int32))) (hp3 : ¬ (((own_ai l_7 (i_3 &&& (255 : Int32))) &&& (28672 : Int32)) = (16384 : Int32))) :
    MF l Z y37_isBlank b31_ 1 (some .boolean) ws ⟨4, 0, 0, 56⟩ #[(.ref o0)] h0 (Q_r30_isBlank Z o0 i_1 o_2 i_3 i_4 k_o_2 o_5 o_6 l_7 k_o_6 h0 n0) := by
 refine own_body (plainFor_of_name pn_String564) (ef_1 o0) (by decide) (by decide) ?_
 intro p e s m below meth c s₁ hx hby hml hown hnm hret hZ hh e0 X0
 have N0 := Fr.nil n0
 obtain ⟨_, T8, L8, X8, hQ8, st8⟩ := own_private X0 hx hZ hown (w269 hw) (w270 hw) (w267 hw) rfl (w271 hw) (w4 hw) (w273 hw) (by decide) (r31_indexOfNonWhitespace l Z a0 hw [] o0 i_1 o_2 i_3 i_4 k_o_2 o_5 o_6 l_7 k_o_6 h0 n0 Z0 E_o0 sCS F_o0_coder O0 hp0 F_o0_value V_o_2 S_instance E_o_5 S_A V_o_6 hp1 hp2 hp3) e0 E_o0 (W := 0) (by decide) (g := (mkF m 1 #[vr o0] [(.ref o0)])) rfl hml.symm (argsL := []) (rest := []) (lenOf pd_15 rfl) rfl rfl (own_wr rfl rfl) (hb hby d367)
 obtain ⟨rfl, N8q, e8⟩ := hQ8
 have N8 := Fr.app N0 N8q
 obtain ⟨_, T9, L9, X9, hQ9, st9⟩ := own_virtual X8 hx hZ hown (w299 hw) (w300 hw) (nfS hZ (w302 hw)) (w302 hw) (w301 hw) (w4 hw) (w303 hw) (by decide) (r37_length l Z a0 hw [] o0 o_2 i_3 i_4 k_o_2 i_1 h0 n0 Z0 F_o0_value V_o_2 E_o0 sCS F_o0_coder O0 hp0) e8 E_o0 (W := 1) (by decide) (g := (mkF m 5 #[vr o0] [(.ref o0), z0])) rfl hml.symm (argsL := []) (rest := [z0]) (lenOf pd_15 rfl) rfl rfl (own_wr rfl rfl) (hb hby d437)
 obtain ⟨rfl, N9q, e9⟩ := hQ9
 have N9 := Fr.app N8 N9q
 refine ⟨T9, _, some z0, X9, (fun h => by cases h <;> rfl), ?_, fun fs hr => ?_⟩
 · show Q_r30_isBlank Z o0 i_1 o_2 i_3 i_4 k_o_2 o_5 o_6 l_7 k_o_6 h0 n0 _ T9.heap _
   rw [e9]
   exact ⟨rfl, N9, rfl⟩
 refine t_aloadN 1 X0.here hx hby d366 rfl rfl rfl ?_
 refine st8 _ ?_
 refine t_aloadN 5 X8.here hx hby d436 rfl rfl rfl ?_
 refine st9 _ ?_
 refine t_icmpYes (pc := 8) 15 X9.here hx hby d451 (by decide) (by decide) (by decide) ?_
 refine t_iconst 16 (r := 0) X9.here hx hby d452 (by decide) rfl ?_
 exact retN X9 hx (t := .boolean) hret (by simp) (hb hby d453) hr
def w268 (hw : HW Z a0) := ow 268 hw rfl
def w265 (hw : HW Z a0) := ow 265 hw rfl
def w266 (hw : HW Z a0) := ow 266 hw rfl
theorem d454 : decode b30_ 8 = .ok (.ifCond .eq 12, 3) := by decide +kernel
theorem d455 : decode b30_ 20 = .ok (.aload_n 0, 1) := by decide +kernel
theorem d456 : decode b30_ 21 = .ok (.areturn, 1) := by decide +kernel
abbrev y38_requireTextOrNull : MethodName := ⟨"com/example/graft_container/graftcontainer/BeanDefinition", "requireTextOrNull", "(Ljava/lang/String;Ljava/lang/String;)Ljava/lang/String;"⟩
def Q_r29_requireTextOrNull (Z : State) (o0 o1 : Addr) (i_1 : Int32) (o_2 : Addr) (i_3 i_4 : Int32) (k_o_2 : ClassId) (o_5 o_6 : Addr) (l_7 : List Value) (k_o_6 : ClassId) (h0 : Heap) (n0 : Nat) (v : Option Value) (h : Heap) (L : List Loc) : Prop := v = some (.ref o0) ∧ Fr n0 L ∧ h = h0
theorem r29_requireTextOrNull (l : Launch) (Z : State) (a0 : Array Value) (hw : HW Z a0) (ws : List Jvm.Cond) (o0 o1 : Addr) (i_1 : Int32) (o_2 : Addr) (i_3 i_4 : Int32) (k_o_2 : ClassId) (o_5 o_6 : Addr) (l_7 : List Value) (k_o_6 : ClassId) (h0 : Heap) (n0 : Nat) (Z0 : n0 ≤ h0.size) (E_o0 : Ex4 Z h0 o0) (sCS : SCS Z i_1) (F_o0_coder : Fd3 Z h0 o0 z0) (F_o0_value : Fd4 Z h0 o0 (.ref o_2)) (V_o_2 : Arv Z h0 o_2 k_o_2 .byte 2 [(.int i_3), (.int i_4)] z0) (S_instance : Sa4 Z (.ref o_5)) (E_o_5 : Ex8 Z h0 o_5) (S_A : Sa3 Z (.ref o_6)) (V_o_6 : Arv Z h0 o_6 k_o_6 .int 256 l_7 z0) (O0 : Old Z n0 h0) (hp0 : ¬ (i_1 = (0 : Int32))) (hp1 : ¬ ((i_3 &&& (255 : Int32)) = (32 : Int32))) (hp2 : ¬ ((i_3 &&& (255 : Int32)) = (9 : Int32))) (hp3 : ¬ (((own_ai l_7 (i_3 &&& (255 : Int32))) &&& (28672 : Int32)) = (16384 : Int32))) :
    MF l Z y38_requireTextOrNull b30_ 2 (some (.object "java/lang/String")) ws ⟨5, 0, 0, 68⟩ #[(.ref o0), (.ref o1)] h0 (Q_r29_requireTextOrNull Z o0 o1 i_1 o_2 i_3 i_4 k_o_2 o_5 o_6 l_7 k_o_6 h0 n0) := by
 refine own_body (plainFor_of_name pn_BeanDefinition762) (ef_0 o0 o1) (by decide) (by decide) ?_
 intro p e s m below meth c s₁ hx hby hml hown hnm hret hZ hh e0 X0
 have N0 := Fr.nil n0
 obtain ⟨_, T8, L8, X8, hQ8, st8⟩ := own_virtual X0 hx hZ hown (w264 hw) (w265 hw) (nfS hZ (w267 hw)) (w267 hw) (w266 hw) (w4 hw) (w268 hw) (by decide) (r30_isBlank l Z a0 hw [] o0 i_1 o_2 i_3 i_4 k_o_2 o_5 o_6 l_7 k_o_6 h0 n0 Z0 E_o0 sCS F_o0_coder F_o0_value V_o_2 S_instance E_o_5 S_A V_o_6 O0 hp0 hp1 hp2 hp3) e0 E_o0 (W := 0) (by decide) (g := (mkF m 5 #[vr o0, vr o1] [(.ref o0)])) rfl hml.symm (argsL := []) (rest := []) (lenOf pd_16 rfl) rfl rfl (own_wr rfl rfl) (hb hby d365)
 obtain ⟨rfl, N8q, e8⟩ := hQ8
 have N8 := Fr.app N0 N8q
 refine ⟨T8, _, some (.ref o0), X8, (fun h => by cases h <;> rfl), ?_, fun fs hr => ?_⟩
 · show Q_r29_requireTextOrNull Z o0 o1 i_1 o_2 i_3 i_4 k_o_2 o_5 o_6 l_7 k_o_6 h0 n0 _ T8.heap _
   rw [e8]
   exact ⟨rfl, N8, rfl⟩
 refine t_aloadN 1 X0.here hx hby d362 rfl rfl rfl ?_
 refine t_ifnullNo 4 X0.here hx hby d363 rfl ?_
 refine t_aloadN 5 X0.here hx hby d364 rfl rfl rfl ?_
 refine st8 _ ?_
 refine t_ifYes (pc := 8) 20 X8.here hx hby d454 (by decide) (by decide) (by decide) ?_
 refine t_aloadN 21 X8.here hx hby d455 rfl rfl rfl ?_
 jvm_step X8.here [X8.here.top, hx, (hb hby d456), X8.method', hret, Value.isRef, FieldType.isReference]
 first | (intro acts; rw [hr _ acts rfl rfl rfl]) | rw [hr _ _ rfl rfl rfl]
 exact Steps.refl _
def w263 (hw : HW Z a0) := ow 263 hw rfl
theorem pd_24 : parseMethodDescriptor "(Ljava/lang/String;Ljava/lang/String;)Ljava/lang/String;" = some ⟨[(.object "java/lang/String"), (.object "java/lang/String")], some (.object "java/lang/String")⟩ := by decide +kernel
def w262 (hw : HW Z a0) := ow 262 hw rfl
theorem d457 : decode b22_ 11 = .ok (.putfield 110, 3) := by decide +kernel
theorem d458 : decode b22_ 14 = .ok (.aload_n 0, 1) := by decide +kernel
theorem d459 : decode b22_ 15 = .ok (.aload_n 0, 1) := by decide +kernel
theorem d460 : decode b22_ 16 = .ok (.invokevirtual 115, 3) := by decide +kernel
def w311 (hw : HW Z a0) := ow 311 hw rfl
abbrev b40_ := prog_7_method_19_code
theorem d461 : decode b40_ 0 = .ok (.ldc 149, 2) := by decide +kernel
theorem d462 : decode b40_ 2 = .ok (.aload_n 0, 1) := by decide +kernel
theorem d463 : decode b40_ 3 = .ok (.invokevirtual 165, 3) := by decide +kernel
def w316 (hw : HW Z a0) := ow 316 hw rfl
theorem d464 : decode b21_ 28 = .ok (.aconst_null, 1) := by decide +kernel
theorem d465 : decode b21_ 29 = .ok (.astore_n 1, 1) := by decide +kernel
def Q_r40_getScope (Z : State) (o0 o_2 : Addr) (h0 : Heap) (n0 : Nat) (v : Option Value) (h : Heap) (L : List Loc) : Prop := v = some .null ∧ Fr n0 L ∧ h = h0
theorem r40_getScope (l : Launch) (Z : State) (a0 : Array Value) (hw : HW Z a0) (ws : List Jvm.Cond) (o0 o_2 : Addr) (h0 : Heap) (n0 : Nat) (Z0 : n0 ≤ h0.size) (F_o0_scope : Fd22 Z h0 o0 .null) (F_o0_parentName : Fd21 Z h0 o0 (.ref o_2)) :
    MF l Z y21_getScope b21_ 2 (some (.object "java/lang/String")) ws ⟨0, 0, 0, 0⟩ #[(.ref o0)] h0 (Q_r40_getScope Z o0 o_2 h0 n0) := by
 refine own_body (plainFor_of_name pn_BeanDefinition762) (ef_8 o0) (by decide) (by decide) ?_
 intro p e s m below meth c s₁ hx hby hml hown hnm hret hZ hh e0 X0
 have N0 := Fr.nil n0
 obtain ⟨T1, X1, e1, st1⟩ := getF X0 hx hZ hown (host := "") (Or.inl (w321 hw)) Via.refl e0 F_o0_scope (g := (mkF m 1 #[vr o0, .unset] [(.ref o0)])) rfl rfl (hb hby d280)
 obtain ⟨T3, X3, e3, st3⟩ := getF X1 hx hZ hown (host := "") (Or.inl (w309 hw)) Via.refl e1 F_o0_parentName (g := (mkF m 16 #[vr o0, .unset] [(.ref o0)])) rfl rfl (hb hby d283)
 refine ⟨T3, _, some .null, X3, (fun h => by cases h <;> rfl), ?_, fun fs hr => ?_⟩
 · show Q_r40_getScope Z o0 o_2 h0 n0 _ T3.heap _
   rw [e3]
   exact ⟨rfl, N0, rfl⟩
 refine t_aloadN 1 X0.here hx hby d279 rfl rfl rfl ?_
 refine st1 _ ?_
 refine t_ifnullYes (pc := 4) 15 X1.here hx hby d281 (by decide) (by decide) ?_
 refine t_aloadN 16 X1.here hx hby d282 rfl rfl rfl ?_
 refine st3 _ ?_
 refine t_ifnonnullYes (pc := 19) 28 X3.here hx hby d284 (by decide) (by decide) ?_
 refine t_aconst_null 29 X3.here hx hby d464 rfl ?_
 refine t_astoreN (pc' := 30) (L' := #[vr o0, .val .null]) X3.here hx hby d465 rfl rfl rfl ?_
 refine t_aloadN 31 X3.here hx hby d288 rfl rfl rfl ?_
 jvm_step X3.here [X3.here.top, hx, (hb hby d289), X3.method', hret, Value.isRef, FieldType.isReference]
 first | (intro acts; rw [hr _ acts rfl rfl rfl]) | rw [hr _ _ rfl rfl rfl]
 exact Steps.refl _
theorem d466 : decode b40_ 6 = .ok (.invokevirtual 150, 3) := by decide +kernel
def w323 (hw : HW Z a0) := ow 323 hw rfl
theorem d467 : decode b6_ 54 = .ok (.iconst 0, 1) := by decide +kernel
theorem ef_14 (x0 : Addr) (m : MethodId) : entryFrame m #[(.ref x0), .null] 3 = mkF m 0 #[.val (.ref x0), .val .null, .unset] [] := by first | (simp [entryFrame, mkF, argsToLocals, Value.category]; done) | rfl
def Q_r41_equals (Z : State) (o0 : Addr) (h0 : Heap) (n0 : Nat) (v : Option Value) (h : Heap) (L : List Loc) : Prop := v = some z0 ∧ Fr n0 L ∧ h = h0
theorem r41_equals (l : Launch) (Z : State) (a0 : Array Value) (hw : HW Z a0) (ws : List Jvm.Cond) (o0 : Addr) (h0 : Heap) (n0 : Nat) (Z0 : n0 ≤ h0.size) :
    MF l Z y7_equals b6_ 3 (some .boolean) ws ⟨0, 0, 0, 0⟩ #[(.ref o0), .null] h0 (Q_r41_equals Z o0 h0 n0) := by
 refine own_body (plainFor_of_name pn_String564) (ef_14 o0) (by decide) (by decide) ?_
 intro p e s m below meth c s₁ hx hby hml hown hnm hret hZ hh e0 X0
 have N0 := Fr.nil n0
 refine ⟨s₁, _, some z0, X0, (fun h => by cases h <;> rfl), ?_, fun fs hr => ?_⟩
 · show Q_r41_equals Z o0 h0 n0 _ s₁.heap _
   rw [e0]
   exact ⟨rfl, N0, rfl⟩
 refine t_aloadN 1 X0.here hx hby d57 rfl rfl rfl ?_
 refine t_aloadN 2 X0.here hx hby d58 rfl rfl rfl ?_
 refine Jvm.RoadKit.acmp (g := (mkF m 2 #[vr o0, .val .null, .unset] [.null, (.ref o0)])) X0 hx rfl rfl rfl (pc0 := 2) (pc' := 7) (same := false) rfl (hb hby d59) rfl (decide_eq_false nofun) (by decide) (by decide) ?_
 refine t_aloadN 8 X0.here hx hby d60 rfl rfl rfl ?_
 refine X0.instanceofNull hx (g := (mkF m 8 #[vr o0, .val .null, .unset] [.null])) rfl rfl (hb hby d61) _ ?_
 refine t_ifYes (pc := 11) 54 X0.here hx hby d62 (by decide) (by decide) (by decide) ?_
 refine t_iconst 55 (r := 0) X0.here hx hby d467 (by decide) rfl ?_
 exact retN X0 hx (t := .boolean) hret (by simp) (hb hby d103) hr
theorem d468 : decode b40_ 9 = .ok (.ireturn, 1) := by decide +kernel
abbrev y39_singletonScope : MethodName := ⟨"com/example/graft_container/graftcontainer/BeanDefinition", "singletonScope", "()Z"⟩
def Q_r39_singletonScope (Z : State) (o0 o_2 : Addr) (h0 : Heap) (n0 : Nat) (v : Option Value) (h : Heap) (L : List Loc) : Prop := v = some z0 ∧ Fr n0 L ∧ KL h0 h []
theorem r39_singletonScope (l : Launch) (Z : State) (a0 : Array Value) (hw : HW Z a0) (ws : List Jvm.Cond) (o0 o_2 : Addr) (h0 : Heap) (n0 : Nat) (Z0 : n0 ≤ h0.size) (E_o0 : Ex5 Z h0 o0) (F_o0_scope : Fd22 Z h0 o0 .null) (F_o0_parentName : Fd21 Z h0 o0 (.ref o_2)) :
    OMH l Z consts_1 [] y39_singletonScope b40_ 1 (some .boolean) ws ⟨1, 2, 40, 14⟩ #[(.ref o0)] h0 (Q_r39_singletonScope Z o0 o_2 h0 n0) := by
 refine own_bodyH (k := 2) (n := 40) (own_EW hw) (plainFor_of_name pn_BeanDefinition762) (ef_1 o0) (by decide) (by decide) ?_
 intro p e s m below meth c s₁ hx hby hml hown hnm hret hZ e0 hS0 hk0 X0 hC0 hSF0
 have N0 := Fr.nil n0
 obtain ⟨c1, T1, h1, k1, b1, kb1, X1, e1, E1, hS1, hk1, hZ1, hown1, Ex1, Fc1, Fv1, Ar1, lta1, ltb1, hC1, Lt1, hne1, st1⟩ := ldcCH X0 hx hZ hown (w315 hw) (own_wS hw) e0 hS0 hk0 (own_EW hw) (by decide) (CHr.refl hC0).1 (vs := [(.int 115), (.int 105), (.int 110), (.int 103), (.int 108), (.int 101), (.int 116), (.int 111), (.int 110)]) (z := 9) ⟨by decide, rfl⟩ (by decide) rfl (g := (mkF m 0 #[vr o0] [])) rfl (hb hby d461) (n := 36) (by decide) (by decide) (by decide) (by decide)
 have K1 := KL.ofE E1
 have Ah1 := (CHr.refl hC0).trans hC1
 have f4 := (kFld K1 F_o0_scope nw0)
 have f5 := (kFld K1 F_o0_parentName nw0)
 have f6 := (kExa K1 E_o0)
 obtain ⟨_, T3, L3, X3, hQ3, st3⟩ := own_virtual X1 hx hZ1 hown1 (w316 hw) (w317 hw) (nfS hZ1 (w319 hw)) (w319 hw) (w318 hw) (w33 hw) (w320 hw) (by decide) (r40_getScope l Z a0 hw [] o0 o_2 h1 n0 (Nat.le_trans Z0 K1.1) f4 f5) e1 f6 (W := 1) (by decide) (g := (mkF m 3 #[vr o0] [(.ref o0), (.ref c1)])) rfl hml.symm (argsL := []) (rest := [(.ref c1)]) (lenOf pd_13 rfl) rfl rfl (own_wr rfl rfl) (hb hby d463)
 obtain ⟨rfl, N3q, e3⟩ := hQ3
 have N3 := Fr.app N0 N3q
 obtain ⟨_, T7, L7, X7, hQ7, st7⟩ := own_virtual X3 hx hZ1 hown1 (w323 hw) (w324 hw) (nfS hZ1 (w326 hw)) (w326 hw) (w325 hw) (w4 hw) (w327 hw) (by decide) (r41_equals l Z a0 hw [] c1 h1 n0 (Nat.le_trans Z0 K1.1)) e3 Ex1 (W := 0) (by decide) (g := (mkF m 6 #[vr o0] [.null, (.ref c1)])) rfl hml.symm (argsL := [.null]) (rest := []) (lenOf pd_14 rfl) rfl rfl (own_wr rfl rfl) (hb hby d466)
 obtain ⟨rfl, N7q, e7⟩ := hQ7
 have N7 := Fr.app N3 N7q
 have C0 := (KL.refl h0 []).trans K1 na0
 refine ⟨T7, _, some z0, _, _, X7, hS1, (by rw [e7]; exact hk1), (fun h => by cases h <;> rfl), ?_, (by rw [e7]; exact Ah1), hZ1, fun fs hr => ?_⟩
 · show Q_r39_singletonScope Z o0 o_2 h0 n0 _ T7.heap _
   rw [e7]
   exact ⟨rfl, N7, C0⟩
 refine st1 _ ?_
 refine t_aloadN 3 X1.here hx hby d462 rfl rfl rfl ?_
 refine st3 _ ?_
 refine st7 _ ?_
 exact retN X7 hx (t := .boolean) hret (by simp) (hb hby d468) hr
theorem sn_264 (hw : HW Z a0) : sl22 Z ≠ sl21 Z := slot_ne (a0 := a0) (Or.inl (w322 hw)) (Or.inl (w310 hw)) (by decide) (t := ft6_) (t' := ft6_) (by decide) (by decide)
def w314 (hw : HW Z a0) := ow 314 hw rfl
def w312 (hw : HW Z a0) := ow 312 hw rfl
def w313 (hw : HW Z a0) := ow 313 hw rfl
theorem d469 : decode b22_ 19 = .ok (.putfield 7, 3) := by decide +kernel
theorem sn_265 (hw : HW Z a0) : sl5 Z ≠ sl21 Z := slot_ne (a0 := a0) (Or.inl (w39 hw)) (Or.inl (w310 hw)) (by decide) (t := .boolean) (t' := ft6_) (by decide) (by decide)
theorem d470 : decode b22_ 22 = .ok (.return_, 1) := by decide +kernel
abbrev y40_setParentName : MethodName := ⟨"com/example/graft_container/graftcontainer/BeanDefinition", "setParentName", "(Ljava/lang/String;)V"⟩
def WS_r21_setParentName (Z : State) (o0 : Addr) : List (Addr × Nat) := [(o0, (sl21 Z)), (o0, (sl5 Z))]
def Q_r21_setParentName (Z : State) (o0 o1 o_1 o_2 : Addr) (k_o_2 : ClassId) (i_5 : Int32) (o_6 : Addr) (i_7 i_8 : Int32) (k_o_6 : ClassId) (o_9 o_10 : Addr) (l_11 : List Value) (k_o_10 : ClassId) (h0 : Heap) (n0 : Nat) (v : Option Value) (h : Heap) (L : List Loc) : Prop := v = none ∧ Fr n0 L ∧ KL h0 h (WS_r21_setParentName Z o0) ∧ Fd21 Z h o0 (.ref o1) ∧ Fd5 Z h o0 z0
theorem r21_setParentName (l : Launch) (Z : State) (a0 : Array Value) (hw : HW Z a0) (ws : List Jvm.Cond) (o0 o1 o_1 o_2 : Addr) (k_o_2 : ClassId) (i_5 : Int32) (o_6 : Addr) (i_7 i_8 : Int32) (k_o_6 : ClassId) (o_9 o_10 : Addr) (l_11 : List Value) (k_o_10 : ClassId) (h0 : Heap) (n0 : Nat) (Z0 : n0 ≤ h0.size) (E_o0 : Ex5 Z h0 o0) (F_o0_frozen : Fd20 Z h0 o0 z0) (F_o0_outers : Fd19 Z h0 o0 (.ref o_1)) (E_o_1 : Ex6 Z h0 o_1) (F_o_1_elements : Fd28 Z h0 o_1 (.ref o_2)) (V_o_2 : Arv Z h0 o_2 k_o_2 (.object "java/lang/Object") (0 : Int32) [] .null) (F_o0_changeListeners : Fd18 Z h0 o0 (.ref o_1)) (E_o1 : Ex4 Z h0 o1) (sCS : SCS Z i_5) (F_o1_coder : Fd3 Z h0 o1 z0) (F_o1_value : Fd4 Z h0 o1 (.ref o_6)) (V_o_6 : Arv Z h0 o_6 k_o_6 .byte 2 [(.int i_7), (.int i_8)] z0) (S_instance : Sa4 Z (.ref o_9)) (E_o_9 : Ex8 Z h0 o_9) (S_A : Sa3 Z (.ref o_10)) (V_o_10 : Arv Z h0 o_10 k_o_10 .int 256 l_11 z0) (O0 : Old Z n0 h0) (hp0 : ¬ (i_5 = (0 : Int32))) (hp1 : ¬ ((i_7 &&& (255 : Int32)) = (32 : Int32))) (hp2 : ¬ ((i_7 &&& (255 : Int32)) = (9 : Int32))) (hp3 : ¬ (((own_ai l_11 (i_7 &&& (255 : Int32))) &&& (28672 : Int32)) = (16384 : Int32))) (F_o0_parentName : Fd21 Z h0 o0 .null) (g_o0 : n0 ≤ o0) (F_o0_scope : Fd22 Z h0 o0 .null) (F_o0_singleton : Fd5 Z h0 o0 (.int 1)) :
    OMH l Z consts_1 [] y40_setParentName b22_ 2 none ws ⟨6, 6, 228, 82⟩ #[(.ref o0), (.ref o1)] h0 (Q_r21_setParentName Z o0 o1 o_1 o_2 k_o_2 i_5 o_6 i_7 i_8 k_o_6 o_9 o_10 l_11 k_o_10 h0 n0) := by
 refine own_bodyH (k := 6) (n := 228) (own_EW hw) (plainFor_of_name pn_BeanDefinition762) (ef_0 o0 o1) (by decide) (by decide) ?_
 intro p e s m below meth c s₁ hx hby hml hown hnm hret hZ e0 hS0 hk0 X0 hC0 hSF0
 have N0 := Fr.nil n0
 obtain ⟨_, T3, L3, X3, hQ3, st3⟩ := own_private X0 hx hZ hown (w194 hw) (w195 hw) (w192 hw) rfl (w196 hw) (w33 hw) (w197 hw) (by decide) (r22_beginChange l Z a0 hw [] o0 o_1 o_2 k_o_2 h0 n0 Z0 E_o0 F_o0_frozen F_o0_outers E_o_1 F_o_1_elements V_o_2 F_o0_changeListeners) e0 E_o0 (W := 0) (by decide) (g := (mkF m 1 #[vr o0, vr o1] [(.ref o0)])) rfl hml.symm (argsL := []) (rest := []) (lenOf pd_9 rfl) rfl rfl (own_wr rfl rfl) (hb hby d291)
 obtain ⟨rfl, N3q, K3⟩ := hQ3
 have N3 := Fr.app N0 N3q
 have Ck0 := own_chK K3 na0 (CHr.refl hC0).1
 have Ah1 := (CHr.refl hC0).trans Ck0.1
 obtain ⟨c4, T4, h4, k4, b4, kb4, X4, e4, E4, hS4, hk4, hZ4, hown4, Ex4, Fc4, Fv4, Ar4, lta4, ltb4, hC4, Lt4, hne4, st4⟩ := ldcCH X3 hx hZ hown (w258 hw) (own_wS hw) rfl hS0 (Nat.le_trans hk0 K3.1) (own_EW hw) (by decide) Ah1.1 (vs := [(.int 65), (.int 32), (.int 112), (.int 97), (.int 114), (.int 101), (.int 110), (.int 116), (.int 32), (.int 100), (.int 101), (.int 102), (.int 105), (.int 110), (.int 105), (.int 116), (.int 105), (.int 111), (.int 110), (.int 39), (.int 115), (.int 32), (.int 110), (.int 97), (.int 109), (.int 101), (.int 32), (.int 109), (.int 117), (.int 115), (.int 116), (.int 32), (.int 110), (.int 111), (.int 116), (.int 32), (.int 98), (.int 101), (.int 32), (.int 98), (.int 108), (.int 97), (.int 110), (.int 107)]) (z := 44) ⟨by decide, rfl⟩ (by decide) rfl (g := (mkF m 6 #[vr o0, vr o1] [(.ref o1), (.ref o0)])) rfl (hb hby d360) (n := 176) (by decide) (by decide) (by decide) (by decide)
 have K4 := KL.ofE E4
 have Ah2 := Ah1.trans hC4
 have f13 := (kExa K4 (kExa K3 E_o1))
 have f14 := (kFld K4 (kFld K3 F_o1_coder nw0) nw0)
 have f15 := (kFld K4 (kFld K3 F_o1_value nw0) nw0)
 have f16 := (kArv K4 (kArv K3 V_o_6 na0) na0)
 have f17 := (kExa K4 (kExa K3 E_o_9))
 have f18 := (kArv K4 (kArv K3 V_o_10 na0) na0)
 have f19 := (kOld K4 (kOld K3 O0 na0) na0)
 have sz_0_2 := (Nat.le_trans K3.1 K4.1)
 obtain ⟨_, T12, L12, X12, hQ12, st12⟩ := own_static X4 hx hZ4 hown4 (w261 hw) (w262 hw) (w33 hw) (w263 hw) (by decide) (r29_requireTextOrNull l Z a0 hw [] o1 c4 i_5 o_6 i_7 i_8 k_o_6 o_9 o_10 l_11 k_o_10 h4 n0 (Nat.le_trans Z0 sz_0_2) f13 sCS f14 f15 f16 S_instance f17 S_A f18 f19 hp0 hp1 hp2 hp3) e4 (W := 1) (by decide) (g := (mkF m 8 #[vr o0, vr o1] [(.ref c4), (.ref o1), (.ref o0)])) rfl hml.symm (argsL := [(.ref o1), (.ref c4)]) (rest := [(.ref o0)]) (lenOf pd_24 rfl) rfl rfl (own_wr rfl rfl) (hb hby d361)
 obtain ⟨rfl, N12q, e12⟩ := hQ12
 have N12 := Fr.app N3 N12q
 have f20 := (kFld K4 (kFld K3 F_o0_parentName nw0) nw0)
 have f21 := (kExa K4 (kExa K3 E_o0))
 obtain ⟨T22, h22, X22, e22, W22, st22⟩ := putF X12 hx hZ4 hown4 (host := "") (Or.inl (w309 hw)) Via.refl e12 f20 f21 (Or.inl (w310 hw)) (w32 hw) (ty := (.object "java/lang/String")) (by decide) rfl rfl (g := (mkF m 11 #[vr o0, vr o1] [(.ref o1), (.ref o0)])) rfl rfl (hb hby d457)
 have K22 := KL.ofW W22
 have Ck2 := own_chK K22 (naF (Safe.exa hZ4.alike f21 (by decide) (by decide)) na0) Ah2.1
 have Ah3 := Ah2.trans Ck2.1
 have Fw22 : Fd21 Z h22 o0 (.ref o1) := Fld.same W22 f20
 have N22 := Fr.snoc X22 N12 g_o0
 have f24 := (kExa K22 f21)
 have f25 := (kFld K22 (kFld K4 (kFld K3 F_o0_scope nw0) nw0) (nwR (sn_264 hw) nw0))
 have sz_0_3 := (Nat.le_trans sz_0_2 K22.1)
 obtain ⟨_, T23, L23, X23, hS23, hk23, hZ23, hown23, hQ23, hC23, st23⟩ := own_Hprivate X22 hx hZ4 hown4 (w311 hw) (w312 hw) (w192 hw) rfl (w313 hw) (w33 hw) (w314 hw) (by decide) (r39_singletonScope l Z a0 hw [] o0 o1 h22 n0 (Nat.le_trans Z0 sz_0_3) f24 f25 Fw22) e22 f24 (W := 1) (by decide) (g := (mkF m 16 #[vr o0, vr o1] [(.ref o0), (.ref o0)])) rfl hml.symm (argsL := []) (rest := [(.ref o0)]) (lenOf pd_16 rfl) rfl rfl (own_wr rfl rfl) (hb hby d460) hS4 (Nat.le_trans hk4 K22.1) (own_EW hw) Ah3.1 sf0
 obtain ⟨rfl, N23q, K23⟩ := hQ23
 have N23 := Fr.app N22 N23q
 have Ah4 := Ah3.trans hC23
 have f26 := (kFld K23 (kFld K22 (kFld K4 (kFld K3 F_o0_singleton nw0) nw0) (nwR (sn_265 hw) nw0)) nw0)
 have f27 := (kExa K23 f24)
 obtain ⟨T28, h28, X28, e28, W28, st28⟩ := putF X23 hx hZ23 hown23 (host := "") (Or.inl (w38 hw)) Via.refl rfl f26 f27 (Or.inl (w39 hw)) (w32 hw) (ty := .boolean) (by decide) (by decide) (by decide) (g := (mkF m 19 #[vr o0, vr o1] [z0, (.ref o0)])) rfl rfl (hb hby d469)
 have K28 := KL.ofW W28
 have Ck4 := own_chK K28 (naF (Safe.exa hZ23.alike f27 (by decide) (by decide)) na0) Ah4.1
 have Ah5 := Ah4.trans Ck4.1
 have Fw28 : Fd5 Z h28 o0 z0 := Fld.same W28 f26
 have N28 := Fr.snoc X28 N23 g_o0
 have C0 := (KL.refl h0 (WS_r21_setParentName Z o0)).trans K3 na0
 have C1 := C0.trans K4 na0
 have C2 := C1.trans K22 (naO (own_mi 0 rfl) na0)
 have C3 := C2.trans K23 na0
 have C4 := C3.trans K28 (naO (own_mi 1 rfl) na0)
 have f29 := (kFld K28 (kFld K23 Fw22 nw0) (nwR (sn_251 hw) nw0))
 refine ⟨T28, _, none, _, _, X28, hS23, (by rw [e28]; exact (Nat.le_trans hk23 K28.1)), (fun h => by cases h <;> rfl), ?_, (by rw [e28]; exact Ah5), hZ23, fun fs hr => ?_⟩
 · show Q_r21_setParentName Z o0 o1 o_1 o_2 k_o_2 i_5 o_6 i_7 i_8 k_o_6 o_9 o_10 l_11 k_o_10 h0 n0 _ T28.heap _
   rw [e28]
   exact ⟨rfl, N28, C4, f29, Fw28⟩
 refine t_aloadN 1 X0.here hx hby d290 rfl rfl rfl ?_
 refine st3 _ ?_
 refine t_aloadN 5 X3.here hx hby d358 rfl rfl rfl ?_
 refine t_aloadN 6 X3.here hx hby d359 rfl rfl rfl ?_
 refine st4 _ ?_
 refine st12 _ ?_
 refine st22 _ ?_
 refine t_aloadN 15 X22.here hx hby d458 rfl rfl rfl ?_
 refine t_aloadN 16 X22.here hx hby d459 rfl rfl rfl ?_
 refine st23 _ ?_
 refine st28 _ ?_
 exact X28.returnOut hx hret (hb hby d470) hr
theorem sn_266 (hw : HW Z a0) : sl20 Z ≠ sl19 Z := slot_ne (a0 := a0) (Or.inl (w203 hw)) (Or.inl (w188 hw)) (by decide) (t := .boolean) (t' := ft0_) (by decide) (by decide)
theorem sn_267 (hw : HW Z a0) : sl20 Z ≠ sl18 Z := slot_ne (a0 := a0) (Or.inl (w203 hw)) (Or.inl (w186 hw)) (by decide) (t := .boolean) (t' := ft0_) (by decide) (by decide)
theorem sn_268 (hw : HW Z a0) : sl20 Z ≠ sl17 Z := slot_ne (a0 := a0) (Or.inl (w203 hw)) (Or.inr (w178 hw)) (by decide) (t := .boolean) (t' := ft0_) (by decide) (by decide)
theorem sn_269 (hw : HW Z a0) : sl20 Z ≠ sl16 Z := slot_ne (a0 := a0) (Or.inl (w203 hw)) (Or.inr (w176 hw)) (by decide) (t := .boolean) (t' := ft0_) (by decide) (by decide)
theorem sn_270 (hw : HW Z a0) : sl20 Z ≠ sl15 Z := slot_ne (a0 := a0) (Or.inl (w203 hw)) (Or.inr (w174 hw)) (by decide) (t := .boolean) (t' := ft5_) (by decide) (by decide)
theorem sn_271 (hw : HW Z a0) : sl20 Z ≠ sl14 Z := slot_ne (a0 := a0) (Or.inl (w203 hw)) (Or.inr (w153 hw)) (by decide) (t := .boolean) (t' := ft0_) (by decide) (by decide)
theorem sn_272 (hw : HW Z a0) : sl20 Z ≠ sl13 Z := slot_ne (a0 := a0) (Or.inl (w203 hw)) (Or.inr (w108 hw)) (by decide) (t := .boolean) (t' := ft0_) (by decide) (by decide)
theorem sn_273 (hw : HW Z a0) : sl20 Z ≠ sl12 Z := slot_ne (a0 := a0) (Or.inl (w203 hw)) (Or.inr (w106 hw)) (by decide) (t := .boolean) (t' := ft0_) (by decide) (by decide)
theorem sn_274 (hw : HW Z a0) : sl20 Z ≠ sl11 Z := slot_ne (a0 := a0) (Or.inl (w203 hw)) (Or.inr (w104 hw)) (by decide) (t := .boolean) (t' := ft5_) (by decide) (by decide)
theorem sn_275 (hw : HW Z a0) : sl20 Z ≠ sl10 Z := slot_ne (a0 := a0) (Or.inl (w203 hw)) (Or.inl (w76 hw)) (by decide) (t := .boolean) (t' := ft4_) (by decide) (by decide)
theorem sn_276 (hw : HW Z a0) : sl20 Z ≠ sl9 Z := slot_ne (a0 := a0) (Or.inl (w203 hw)) (Or.inl (w71 hw)) (by decide) (t := .boolean) (t' := .boolean) (by decide) (by decide)
theorem sn_277 (hw : HW Z a0) : sl20 Z ≠ sl8 Z := slot_ne (a0 := a0) (Or.inl (w203 hw)) (Or.inr (w69 hw)) (by decide) (t := .boolean) (t' := ft0_) (by decide) (by decide)
theorem sn_278 (hw : HW Z a0) : sl20 Z ≠ sl7 Z := slot_ne (a0 := a0) (Or.inl (w203 hw)) (Or.inl (w43 hw)) (by decide) (t := .boolean) (t' := .boolean) (by decide) (by decide)
theorem sn_279 (hw : HW Z a0) : sl20 Z ≠ sl6 Z := slot_ne (a0 := a0) (Or.inl (w203 hw)) (Or.inl (w41 hw)) (by decide) (t := .boolean) (t' := .boolean) (by decide) (by decide)
theorem sn_280 (hw : HW Z a0) : sl20 Z ≠ sl5 Z := slot_ne (a0 := a0) (Or.inl (w203 hw)) (Or.inl (w39 hw)) (by decide) (t := .boolean) (t' := .boolean) (by decide) (by decide)
theorem nwf_2 (hw : HW Z a0) (b : Addr) : (b, sl20 Z) ∉ WS_r12__init_ Z b := (nwR (sn_280 hw) (nwR (sn_279 hw) (nwR (sn_278 hw) (nwR (sn_277 hw) (nwR (sn_276 hw) (nwR (sn_275 hw) (nwR (sn_274 hw) (nwR (sn_273 hw) (nwR (sn_272 hw) (nwR (sn_271 hw) (nwR (sn_270 hw) (nwR (sn_269 hw) (nwR (sn_268 hw) (nwR (sn_267 hw) (nwR (sn_266 hw) nw0)))))))))))))))
def w193 (hw : HW Z a0) := ow 193 hw rfl
theorem pd_25 : parseMethodDescriptor "(Ljava/lang/String;)V" = some ⟨[(.object "java/lang/String")], none⟩ := by decide +kernel
def w190 (hw : HW Z a0) := ow 190 hw rfl
def w191 (hw : HW Z a0) := ow 191 hw rfl
theorem law_01 (l : Launch) (Z : State) (a0 : Array Value) (hw : HW Z a0) (ws : List Jvm.Cond) (p0 p1 p2 p3 cs : Int32) (st_NO st_DC st_EL el_EL st_CD st_A : Addr) (tA : List Value) (m_AL m_UL m_UR m_LM m_UM : Addr) (k_el_EL k_st_A : ClassId) (h0 : Heap) (n0 : Nat) (Z0 : n0 ≤ h0.size) (hcs : ¬ (cs = (0 : Int32))) (hA : TabA tA) (hs : ((p0 &&& (2147483647 : Int32)) - ((p0 &&& (2147483647 : Int32)) / (3 : Int32)) * (3 : Int32)) = (0 : Int32)) (hpm : (p1 &&& (3 : Int32)) = (1 : Int32)) (sCS : SCS Z cs) (O0 : Old Z n0 h0) (S_DEFAULTCAPACITY_EMPTY_ELEMENTDATA : Sa0 Z (.ref st_DC)) (S_NO : Sa2 Z (.ref st_NO)) (M_java_util_ArrayList : OMir Z "java/util/ArrayList" m_AL) (M_java_util_Collections_UnmodifiableList : OMir Z "java/util/Collections$UnmodifiableList" m_UL) (M_java_util_Collections_UnmodifiableRandomAccessList : OMir Z "java/util/Collections$UnmodifiableRandomAccessList" m_UR) (M_java_util_LinkedHashMap : OMir Z "java/util/LinkedHashMap" m_LM) (M_java_util_Collections_UnmodifiableMap : OMir Z "java/util/Collections$UnmodifiableMap" m_UM) (S_EMPTY_LIST : Sa1 Z (.ref st_EL)) (E_st_EL : Ex6 Z h0 st_EL) (F_st_EL_elements : Fd28 Z h0 st_EL (.ref el_EL)) (V_el_EL : Arv Z h0 el_EL k_el_EL (.object "java/lang/Object") (0 : Int32) [] .null) (S_instance : Sa4 Z (.ref st_CD)) (E_st_CD : Ex8 Z h0 st_CD) (S_A : Sa3 Z (.ref st_A)) (V_st_A : Arv Z h0 st_A k_st_A .int 256 tA z0) :
    LawM l Z ws p0 p1 p2 p3 h0 n0 := by
 refine own_bodyH (k := 18) (n := 295) (y := x) (Q := fun v _ L => Q_law n0 v L) (own_EW hw) (plainFor_of_name pn_BeanDefinitionGetScopePinLaw149) (ef_law p0 p1 p2 p3) (by decide) (by decide) ?_
 intro p e s m below meth c s₁ hx hby hml hown hnm hret hZ e0 hS0 hk0 X0 hC0 hSF0
 have N0 := Fr.nil n0
 obtain ⟨T1, h1, k1, X1, e1, E1, A1, st1⟩ := newP (aty := .char) X0 hx hZ (w1 hw) e0 (g := (mkF m 14 #[vi p0, vi p1, vi p2, vi p3, vi 0, vi 1, .unset, .unset, .unset, .unset, .unset, .unset] [(.int 2)])) rfl (hb hby at_14) rfl (by decide) (cap := 2) (by decide) (by decide) (by decide) (by decide)
 obtain ⟨b1, g1⟩ : ∃ z, z = h0.size := ⟨_, rfl⟩
 rw [← g1] at A1 st1
 have ge_b1 : h0.size ≤ b1 := Nat.le_of_eq g1.symm
 have K1 := KL.ofE E1
 have Ck0 := own_chK K1 na0 (CHr.refl hC0).1
 have Ah1 := (CHr.refl hC0).trans Ck0.1
 have V1 : Arv Z h1 b1 k1 .char 2 [z0, z0] z0 := (Arv.new A1 (by decide)).pad (pad_rep [] z0 2)
 obtain ⟨T2, h2, X2, e2, W2, V2, st2⟩ := own_astC X1 hx hZ e1 V1 (j := 0) (by decide) 0 rfl (Nat.le_of_ble_eq_true rfl) (g := (mkF m 32 #[vi p0, vi p1, vi p2, vi p3, vi 0, vi 1, vr b1, .unset, .unset, .unset, .unset, .unset] [(.int (own_c0 p2)), z0, (.ref b1)])) rfl rfl (hb hby at_32)
 rw [show (nar .char (own_c0 p2)) = (own_c0 p2) from (own_c2c (own_c0a p2) (own_c0b p2))] at V2
 have gg3 := Nat.le_trans Z0 ge_b1
 have K2 := KL.ofW W2
 have Ck1 := own_chK K2 (naF (Ck0.2 _ (Safe.new ge_b1)) na0) Ah1.1
 have Ah2 := Ah1.trans Ck1.1
 replace V2 : Arv Z h2 b1 k1 .char 2 [(.int (own_c0 p2)), z0] z0 := V2
 have N2 := Fr.snoc X2 N0 gg3
 obtain ⟨T4, h4, X4, e4, W4, V4, st4⟩ := own_astC X2 hx hZ e2 V2 (j := 1) (by decide) 1 rfl (Nat.le_of_ble_eq_true rfl) (g := (mkF m 42 #[vi p0, vi p1, vi p2, vi p3, vi 0, vi 1, vr b1, .unset, .unset, .unset, .unset, .unset] [(.int (p3 &&& (255 : Int32))), (.int 1), (.ref b1)])) rfl rfl (hb hby at_42)
 rw [show (nar .char (p3 &&& (255 : Int32))) = (p3 &&& (255 : Int32)) from (i2c_mask _)] at V4
 have K4 := KL.ofW W4
 have sf5 := (Ck1.2 _ (Ck0.2 _ (Safe.new ge_b1)))
 have Ck2 := own_chK K4 (naF sf5 na0) Ah2.1
 have Ah3 := Ah2.trans Ck2.1
 replace V4 : Arv Z h4 b1 k1 .char 2 [(.int (own_c0 p2)), (.int (p3 &&& (255 : Int32)))] z0 := V4
 have N4 := Fr.snoc X4 N2 gg3
 obtain ⟨T6, h6, X6, e6, E6, A6, D6, -, st6⟩ := newO X4 hx hZ hown (w2 hw) (w3 hw) (w4 hw) e4 (g := (mkF m 43 #[vi p0, vi p1, vi p2, vi p3, vi 0, vi 1, vr b1, .unset, .unset, .unset, .unset, .unset] [])) rfl (hb hby at_43) (by decide) (by decide)
 obtain ⟨b6, g6⟩ : ∃ z, z = h4.size := ⟨_, rfl⟩
 rw [← g6] at A6 D6 st6
 have ge_b6 : h4.size ≤ b6 := Nat.le_of_eq g6.symm
 have K6 := KL.ofE E6
 have Ck3 := own_chK K6 na0 Ah3.1
 have Ah4 := Ah3.trans Ck3.1
 have F_b6_coder : Fd3 Z h6 b6 z0 := D6 (Or.inr (w28 hw)) (ty := .byte) (by decide)
 have F_b6_value : Fd4 Z h6 b6 .null := D6 (Or.inr (w30 hw)) (ty := (.array .byte)) (by decide)
 have f8 := (kArv K6 V4 na0)
 have f9 := (kOld K6 (kOld K4 (kOld K2 (kOld K1 O0 na0) (naG gg3 na0)) (naG gg3 na0)) na0)
 have sz_0_2 := (Nat.le_trans K1.1 K2.1)
 have sz_0_3 := (Nat.le_trans sz_0_2 K4.1)
 have gg10 := Nat.le_trans Z0 (Nat.le_trans sz_0_3 ge_b6)
 have sz_0_4 := (Nat.le_trans sz_0_3 K6.1)
 obtain ⟨_, T7, L7, X7, hQ7, st7⟩ := own_init X6 hx hZ rfl hown (w5 hw) (w6 hw) (w4 hw) (w7 hw) (by decide) (r7__init_ l Z a0 hw [] b6 b1 (own_c0 p2) (p3 &&& (255 : Int32)) k1 cs h6 n0 (Nat.le_trans Z0 sz_0_4) f8 sCS F_b6_coder A6 F_b6_value f9 hcs (own_c0b p2) (own_m255b _) gg10) e6 (W := 1) (by decide) (g := (mkF m 49 #[vi p0, vi p1, vi p2, vi p3, vi 0, vi 1, vr b1, .unset, .unset, .unset, .unset, .unset] [(.ref b1), (.ref b6), (.ref b6)])) rfl hml.symm (argsL := [(.ref b1)]) (rest := [(.ref b6)]) (lenOf pd_8 rfl) rfl rfl (own_wr rfl rfl) (hb hby at_49)
 obtain ⟨b1_6_4_7, k1_6_4_7, rfl, N7q, K7, Q7_0, Q7_1, Q7_2, Q7_3⟩ := hQ7
 have N7 := Fr.app N4 N7q
 have Ck4 := own_chK K7 (naF (Ck3.2 _ (Safe.new ge_b6)) (naF (Ck3.2 _ (Safe.new ge_b6)) na0)) Ah4.1
 have Ah5 := Ah4.trans Ck4.1
 obtain ⟨T12, h12, X12, e12, E12, A12, D12, -, st12⟩ := newO X7 hx hZ hown (w31 hw) (w32 hw) (w33 hw) rfl (g := (mkF m 54 #[vi p0, vi p1, vi p2, vi p3, vi 0, vi 1, vr b1, vr b6, .unset, .unset, .unset, .unset] [])) rfl (hb hby at_54) (by decide) (by decide)
 obtain ⟨b12, g12⟩ : ∃ z, z = T7.heap.size := ⟨_, rfl⟩
 rw [← g12] at A12 D12 st12
 have ge_b12 : T7.heap.size ≤ b12 := Nat.le_of_eq g12.symm
 have K12 := KL.ofE E12
 have Ck5 := own_chK K12 na0 Ah5.1
 have Ah6 := Ah5.trans Ck5.1
 have F_b12_singleton : Fd5 Z h12 b12 z0 := D12 (Or.inl (w39 hw)) (ty := .boolean) (by decide)
 have F_b12_initMethodRequired : Fd6 Z h12 b12 z0 := D12 (Or.inl (w41 hw)) (ty := .boolean) (by decide)
 have F_b12_destroyMethodRequired : Fd7 Z h12 b12 z0 := D12 (Or.inl (w43 hw)) (ty := .boolean) (by decide)
 have F_b12_dependsOn : Fd8 Z h12 b12 .null := D12 (Or.inr (w69 hw)) (ty := (.object "java/util/List")) (by decide)
 have F_b12_autowireCandidate : Fd9 Z h12 b12 z0 := D12 (Or.inl (w71 hw)) (ty := .boolean) (by decide)
 have F_b12_autowireMode : Fd10 Z h12 b12 .null := D12 (Or.inl (w76 hw)) (ty := (.object "com/example/graft_container/graftcontainer/BeanDefinition$Autowire")) (by decide)
 have F_b12_qualifiers : Fd11 Z h12 b12 .null := D12 (Or.inr (w104 hw)) (ty := (.object "java/util/Map")) (by decide)
 have F_b12_propertyValues : Fd12 Z h12 b12 .null := D12 (Or.inr (w106 hw)) (ty := (.object "java/util/List")) (by decide)
 have F_b12_constructorArguments : Fd13 Z h12 b12 .null := D12 (Or.inr (w108 hw)) (ty := (.object "java/util/List")) (by decide)
 have F_b12_dependsOnView : Fd14 Z h12 b12 .null := D12 (Or.inr (w153 hw)) (ty := (.object "java/util/List")) (by decide)
 have F_b12_qualifiersView : Fd15 Z h12 b12 .null := D12 (Or.inr (w174 hw)) (ty := (.object "java/util/Map")) (by decide)
 have F_b12_propertyValuesView : Fd16 Z h12 b12 .null := D12 (Or.inr (w176 hw)) (ty := (.object "java/util/List")) (by decide)
 have F_b12_constructorArgumentsView : Fd17 Z h12 b12 .null := D12 (Or.inr (w178 hw)) (ty := (.object "java/util/List")) (by decide)
 have F_b12_changeListeners : Fd18 Z h12 b12 .null := D12 (Or.inl (w186 hw)) (ty := (.object "java/util/List")) (by decide)
 have F_b12_outers : Fd19 Z h12 b12 .null := D12 (Or.inl (w188 hw)) (ty := (.object "java/util/List")) (by decide)
 have F_b12_frozen : Fd20 Z h12 b12 z0 := D12 (Or.inl (w203 hw)) (ty := .boolean) (by decide)
 have F_b12_parentName : Fd21 Z h12 b12 .null := D12 (Or.inl (w310 hw)) (ty := (.object "java/lang/String")) (by decide)
 have F_b12_scope : Fd22 Z h12 b12 .null := D12 (Or.inl (w322 hw)) (ty := (.object "java/lang/String")) (by decide)
 have sz_0_5 := (Nat.le_trans sz_0_4 K7.1)
 have gg14 := Nat.le_trans Z0 (Nat.le_trans sz_0_5 ge_b12)
 have f15 := (kOld K12 (kOld K7 f9 (naG gg10 (naG gg10 na0))) na0)
 have sz_0_6 := (Nat.le_trans sz_0_5 K12.1)
 obtain ⟨_, T13, L13, X13, hQ13, st13⟩ := own_init X12 hx hZ rfl hown (w34 hw) (w35 hw) (w33 hw) (w36 hw) (by decide) (r12__init_ l Z a0 hw [] b12 st_DC st_NO m_AL m_UL m_UR m_LM m_UM st_EL h12 n0 (Nat.le_trans Z0 sz_0_6) F_b12_singleton A12 gg14 F_b12_initMethodRequired F_b12_destroyMethodRequired S_DEFAULTCAPACITY_EMPTY_ELEMENTDATA f15 F_b12_dependsOn F_b12_autowireCandidate S_NO F_b12_autowireMode F_b12_qualifiers F_b12_propertyValues F_b12_constructorArguments M_java_util_ArrayList M_java_util_Collections_UnmodifiableList M_java_util_Collections_UnmodifiableRandomAccessList F_b12_dependsOnView M_java_util_LinkedHashMap M_java_util_Collections_UnmodifiableMap F_b12_qualifiersView F_b12_propertyValuesView F_b12_constructorArgumentsView S_EMPTY_LIST F_b12_changeListeners F_b12_outers) e12 (W := 1) (by decide) (g := (mkF m 58 #[vi p0, vi p1, vi p2, vi p3, vi 0, vi 1, vr b1, vr b6, .unset, .unset, .unset, .unset] [(.ref b12), (.ref b12)])) rfl hml.symm (argsL := []) (rest := [(.ref b12)]) (lenOf pd_9 rfl) rfl rfl (own_wr rfl rfl) (hb hby at_58)
 obtain ⟨b9_13, b27_13, b34_13, b42_13, r_55_13, r_64_13, r_71_13, r_78_13, rfl, N13q, K13, Q13_0, Q13_1, Q13_2, Q13_3, Q13_4, Q13_5, Q13_6, Q13_7, Q13_8, Q13_9, Q13_10, Q13_11, Q13_12, Q13_13, Q13_14, Q13_15, Q13_16, Q13_17, Q13_18, Q13_19, Q13_20, Q13_21, Q13_22⟩ := hQ13
 have N13 := Fr.app N7 N13q
 have Ck6 := own_chK K13 (naFM 15 rfl (Safe.exa hZ.alike A12 (by decide) (by decide)) na0) Ah6.1
 have Ah7 := Ah6.trans Ck6.1
 have f17 := (kExa K13 A12)
 have f18 := (kFld K13 F_b12_frozen (nwf_2 hw b12))
 have f19 := (kExa K13 (kExa K12 (kExa K7 (kExa K6 (kExa K4 (kExa K2 (kExa K1 E_st_EL)))))))
 have lt_st_EL : st_EL < h0.size := Exa.lt E_st_EL
 have ne20 := lt_ne lt_st_EL ge_b1
 have ne21 := lt_ne (Nat.lt_of_lt_of_le lt_st_EL sz_0_3) ge_b6
 have ne22 := lt_ne (Nat.lt_of_lt_of_le lt_st_EL sz_0_5) ge_b12
 have f23 := (kFld K13 (kFld K12 (kFld K7 (kFld K6 (kFld K4 (kFld K2 (kFld K1 F_st_EL_elements nw0) (nwL ne20 nw0)) (nwL ne20 nw0)) nw0) (nwL ne21 (nwL ne21 nw0))) nw0) (nwM 15 rfl ne22 nw0))
 have lt_el_EL : el_EL < h0.size := Arv.lt V_el_EL
 have ne24 := lt_ne lt_el_EL ge_b1
 have ne25 := lt_ne (Nat.lt_of_lt_of_le lt_el_EL sz_0_3) ge_b6
 have ne26 := lt_ne (Nat.lt_of_lt_of_le lt_el_EL sz_0_5) ge_b12
 have f27 := (kArv K13 (kArv K12 (kArv K7 (kArv K6 (kArv K4 (kArv K2 (kArv K1 V_el_EL na0) (naN (Ne.symm ne24) na0)) (naN (Ne.symm ne24) na0)) na0) (naN (Ne.symm ne25) (naN (Ne.symm ne25) na0))) na0) (naNM 15 rfl (Ne.symm ne26) na0))
 have f28 := (kExa K13 (kExa K12 (kExa K7 A6)))
 have lt_b6 : b6 < h6.size := Exa.lt A6
 have ne29 := lt_ne (Nat.lt_of_lt_of_le lt_b6 K7.1) ge_b12
 have f30 := (kFld K13 (kFld K12 Q7_1 nw0) (nwM 15 rfl ne29 nw0))
 have f31 := (kFld K13 (kFld K12 Q7_2 nw0) (nwM 15 rfl ne29 nw0))
 have lt_b1_6_4_7 : b1_6_4_7 < T7.heap.size := Arv.lt Q7_3
 have ne32 := lt_ne lt_b1_6_4_7 ge_b12
 have f33 := (kArv K13 (kArv K12 Q7_3 na0) (naNM 15 rfl (Ne.symm ne32) na0))
 have f34 := (kExa K13 (kExa K12 (kExa K7 (kExa K6 (kExa K4 (kExa K2 (kExa K1 E_st_CD)))))))
 have lt_st_A : st_A < h0.size := Arv.lt V_st_A
 have ne35 := lt_ne lt_st_A ge_b1
 have ne36 := lt_ne (Nat.lt_of_lt_of_le lt_st_A sz_0_3) ge_b6
 have ne37 := lt_ne (Nat.lt_of_lt_of_le lt_st_A sz_0_5) ge_b12
 have f38 := (kArv K13 (kArv K12 (kArv K7 (kArv K6 (kArv K4 (kArv K2 (kArv K1 V_st_A na0) (naN (Ne.symm ne35) na0)) (naN (Ne.symm ne35) na0)) na0) (naN (Ne.symm ne36) (naN (Ne.symm ne36) na0))) na0) (naNM 15 rfl (Ne.symm ne37) na0))
 have f39 := (kOld K13 f15 (naGM 15 rfl gg14 na0))
 have f40 := (kFld K13 F_b12_parentName (nwf_1 hw b12))
 have f41 := (kFld K13 F_b12_scope (nwf_0 hw b12))
 have sz_0_7 := (Nat.le_trans sz_0_6 K13.1)
 obtain ⟨_, T16, L16, X16, hS16, hk16, hZ16, hown16, hQ16, hC16, st16⟩ := own_Hvirtual X13 hx hZ hown (w189 hw) (w190 hw) (nfS hZ (w192 hw)) (w192 hw) (w191 hw) (w33 hw) (w193 hw) (by decide) (r21_setParentName l Z a0 hw [] b12 b6 st_EL el_EL k_el_EL cs b1_6_4_7 ((own_c0 p2).toInt8.toInt32) ((p3 &&& (255 : Int32)).toInt8.toInt32) k1_6_4_7 st_CD st_A tA k_st_A T13.heap n0 (Nat.le_trans Z0 sz_0_7) f17 f18 Q13_22 f19 f23 f27 Q13_21 f28 sCS f30 f31 f33 S_instance f34 S_A f38 f39 hcs (own_nsp p2 (by decide)) (own_nsp p2 (by decide)) (own_nws p2 hA) f40 gg14 f41 Q13_8) rfl f17 (W := 0) (by decide) (g := (mkF m 79 #[vi p0, vi p1, vi p2, vi p3, vi 0, vi 1, vr b1, vr b6, vr b12, .unset, .unset, .unset] [(.ref b6), (.ref b12)])) rfl hml.symm (argsL := [(.ref b6)]) (rest := []) (lenOf pd_25 rfl) rfl rfl (own_wr rfl rfl) (hb hby at_79) hS0 (Nat.le_trans hk0 sz_0_7) (own_EW hw) Ah7.1 sf0
 obtain ⟨rfl, N16q, K16, Q16_0, Q16_1⟩ := hQ16
 have N16 := Fr.app N13 N16q
 have Ah8 := Ah7.trans hC16
 have f43 := (kFld K16 f41 (nwR (sn_264 hw) (nwR (sn_236 hw) nw0)))
 have sz_0_8 := (Nat.le_trans sz_0_7 K16.1)
 have f44 := (kExa K16 f17)
 obtain ⟨_, T42, L42, X42, hQ42, st42⟩ := own_virtual X16 hx hZ16 hown16 (w328 hw) (w317 hw) (nfS hZ16 (w319 hw)) (w319 hw) (w318 hw) (w33 hw) (w320 hw) (by decide) (r40_getScope l Z a0 hw [] b12 b6 T16.heap n0 (Nat.le_trans Z0 sz_0_8) f43 Q16_0) rfl f44 (W := 0) (by decide) (g := (mkF m 157 #[vi p0, vi p1, vi p2, vi p3, vi 0, vi 1, vr b1, vr b6, vr b12, vi 1, .unset, .unset] [(.ref b12)])) rfl hml.symm (argsL := []) (rest := []) (lenOf pd_13 rfl) rfl rfl (own_wr rfl rfl) (hb hby at_157)
 obtain ⟨rfl, N42q, e42⟩ := hQ42
 have N42 := Fr.app N16 N42q
 refine ⟨T42, _, some (.int 1), _, _, X42, hS16, (by rw [e42]; exact hk16), (fun h => by cases h <;> rfl), ?_, (by rw [e42]; exact Ah8), hZ16, fun fs hr => ?_⟩
 · show Q_law n0 _ _
   exact ⟨rfl, N42⟩
 refine t_iloadN 1 X0.here hx hby at_0 rfl rfl ?_
 refine X0.ldcInt hx hown (mvT hZ (w0 hw)) (g := (mkF m 1 #[vi p0, vi p1, vi p2, vi p3, .unset, .unset, .unset, .unset, .unset, .unset, .unset, .unset] [(.int p0)])) rfl (hb hby at_1) _ ?_
 refine t_iand 4 X0.here hx hby at_3 rfl rfl ?_
 refine t_iconst 5 (r := 3) X0.here hx hby at_4 (by decide) rfl ?_
 refine t_irem 6 (r := 0) X0.here hx hby at_5 (by decide) hs rfl ?_
 refine t_istore (pc' := 8) (L' := #[vi p0, vi p1, vi p2, vi p3, vi 0, .unset, .unset, .unset, .unset, .unset, .unset, .unset]) X0.here hx hby at_6 rfl rfl ?_
 refine t_iloadN 9 X0.here hx hby at_8 rfl rfl ?_
 refine t_iconst 10 (r := 3) X0.here hx hby at_9 (by decide) rfl ?_
 refine t_iand 11 (r := 1) X0.here hx hby at_10 hpm rfl ?_
 refine t_istore (pc' := 13) (L' := #[vi p0, vi p1, vi p2, vi p3, vi 0, vi 1, .unset, .unset, .unset, .unset, .unset, .unset]) X0.here hx hby at_11 rfl rfl ?_
 refine t_iconst 14 (r := 2) X0.here hx hby at_13 (by decide) rfl ?_
 refine st1 _ ?_
 refine t_astore (pc' := 18) (L' := #[vi p0, vi p1, vi p2, vi p3, vi 0, vi 1, vr b1, .unset, .unset, .unset, .unset, .unset]) X1.here hx hby at_16 rfl rfl rfl ?_
 refine t_aload 20 X1.here hx hby at_18 rfl rfl rfl ?_
 refine t_iconst 21 (r := 0) X1.here hx hby at_20 (by decide) rfl ?_
 refine t_bipush 23 (r := 33) X1.here hx hby at_21 (by decide) rfl ?_
 refine t_iloadN 24 X1.here hx hby at_23 rfl rfl ?_
 refine X1.ldcInt hx hown (mvT hZ (w0 hw)) (g := (mkF m 24 #[vi p0, vi p1, vi p2, vi p3, vi 0, vi 1, vr b1, .unset, .unset, .unset, .unset, .unset] [(.int p2), (.int 33), z0, (.ref b1)])) rfl (hb hby at_24) _ ?_
 refine t_iand 27 X1.here hx hby at_26 rfl rfl ?_
 refine t_bipush 29 (r := 94) X1.here hx hby at_27 (by decide) rfl ?_
 refine t_irem 30 X1.here hx hby at_29 (by decide) rfl rfl ?_
 refine t_iadd 31 (r := (own_c0 p2)) X1.here hx hby at_30 (Eq.refl (own_c0 p2)) rfl ?_
 refine t_i2c 32 (r := (own_c0 p2)) X1.here hx hby at_31 (own_c2c (own_c0a p2) (own_c0b p2)) rfl ?_
 refine st2 _ ?_
 refine t_aload 35 X2.here hx hby at_33 rfl rfl rfl ?_
 refine t_iconst 36 (r := 1) X2.here hx hby at_35 (by decide) rfl ?_
 refine t_iloadN 37 X2.here hx hby at_36 rfl rfl ?_
 refine t_sipush 40 (r := 255) X2.here hx hby at_37 (by decide) rfl ?_
 refine t_iand 41 X2.here hx hby at_40 rfl rfl ?_
 refine t_i2c 42 (r := (p3 &&& (255 : Int32))) X2.here hx hby at_41 (i2c_mask _) rfl ?_
 refine st4 _ ?_
 refine st6 _ ?_
 refine t_dup 47 X6.here hx hby at_46 rfl rfl ?_
 refine t_aload 49 X6.here hx hby at_47 rfl rfl rfl ?_
 refine st7 _ ?_
 refine t_astore (pc' := 54) (L' := #[vi p0, vi p1, vi p2, vi p3, vi 0, vi 1, vr b1, vr b6, .unset, .unset, .unset, .unset]) X7.here hx hby at_52 rfl rfl rfl ?_
 refine st12 _ ?_
 refine t_dup 58 X12.here hx hby at_57 rfl rfl ?_
 refine st13 _ ?_
 refine t_astore (pc' := 63) (L' := #[vi p0, vi p1, vi p2, vi p3, vi 0, vi 1, vr b1, vr b6, vr b12, .unset, .unset, .unset]) X13.here hx hby at_61 rfl rfl rfl ?_
 refine t_iload 65 X13.here hx hby at_63 rfl rfl ?_
 refine t_iconst 66 (r := 1) X13.here hx hby at_65 (by decide) rfl ?_
 refine t_icmpYes (pc := 66) 75 X13.here hx hby at_66 (by decide) (by decide) (by decide) ?_
 refine t_aload 77 X13.here hx hby at_75 rfl rfl rfl ?_
 refine t_aload 79 X13.here hx hby at_77 rfl rfl rfl ?_
 refine st16 _ ?_
 refine t_iload 84 X16.here hx hby at_82 rfl rfl ?_
 refine t_iconst 85 (r := 2) X16.here hx hby at_84 (by decide) rfl ?_
 refine t_icmpYes (pc := 85) 94 X16.here hx hby at_85 (by decide) (by decide) (by decide) ?_
 refine t_iload 96 X16.here hx hby at_94 rfl rfl ?_
 refine t_iconst 97 (r := 1) X16.here hx hby at_96 (by decide) rfl ?_
 refine t_icmpYes (pc := 97) 110 X16.here hx hby at_97 (by decide) (by decide) (by decide) ?_
 refine t_iload 112 X16.here hx hby at_110 rfl rfl ?_
 refine t_iconst 113 (r := 2) X16.here hx hby at_112 (by decide) rfl ?_
 refine t_icmpYes (pc := 113) 123 X16.here hx hby at_113 (by decide) (by decide) (by decide) ?_
 refine t_iload 125 X16.here hx hby at_123 rfl rfl ?_
 refine t_iconst 126 (r := 3) X16.here hx hby at_125 (by decide) rfl ?_
 refine t_icmpYes (pc := 126) 136 X16.here hx hby at_126 (by decide) (by decide) (by decide) ?_
 refine t_iload 138 X16.here hx hby at_136 rfl rfl ?_
 refine t_iconst 139 (r := 1) X16.here hx hby at_138 (by decide) rfl ?_
 refine t_icmpYes (pc := 139) 148 X16.here hx hby at_139 (by decide) (by decide) (by decide) ?_
 refine t_iconst 149 (r := 1) X16.here hx hby at_148 (by decide) rfl ?_
 refine t_goto (pc := 149) 153 X16.here hx hby at_149 (by decide) (by decide) ?_
 refine t_istore (pc' := 155) (L' := #[vi p0, vi p1, vi p2, vi p3, vi 0, vi 1, vr b1, vr b6, vr b12, vi 1, .unset, .unset]) X16.here hx hby at_153 rfl rfl ?_
 refine t_aload 157 X16.here hx hby at_155 rfl rfl rfl ?_
 refine st42 _ ?_
 refine t_astore (pc' := 162) (L' := #[vi p0, vi p1, vi p2, vi p3, vi 0, vi 1, vr b1, vr b6, vr b12, vi 1, .val .null, .unset]) X42.here hx hby at_160 rfl rfl rfl ?_
 refine t_iload 164 X42.here hx hby at_162 rfl rfl ?_
 refine t_iconst 165 (r := 1) X42.here hx hby at_164 (by decide) rfl ?_
 refine t_icmpYes (pc := 165) 175 X42.here hx hby at_165 (by decide) (by decide) (by decide) ?_
 refine t_iload 177 X42.here hx hby at_175 rfl rfl ?_
 refine t_iconst 178 (r := 2) X42.here hx hby at_177 (by decide) rfl ?_
 refine t_icmpYes (pc := 178) 188 X42.here hx hby at_178 (by decide) (by decide) (by decide) ?_
 refine t_iload 190 X42.here hx hby at_188 rfl rfl ?_
 refine t_ifNo 193 X42.here hx hby at_190 (by decide) rfl ?_
 refine t_aconst_null 194 X42.here hx hby at_193 rfl ?_
 refine t_astore (pc' := 196) (L' := #[vi p0, vi p1, vi p2, vi p3, vi 0, vi 1, vr b1, vr b6, vr b12, vi 1, .val .null, .val .null]) X42.here hx hby at_194 rfl rfl rfl ?_
 refine t_goto (pc := 196) 203 X42.here hx hby at_196 (by decide) (by decide) ?_
 refine t_aload 205 X42.here hx hby at_203 rfl rfl rfl ?_
 refine t_ifnonnullNo 208 X42.here hx hby at_205 rfl ?_
 refine t_aload 210 X42.here hx hby at_208 rfl rfl rfl ?_
 refine t_ifnonnullNo 213 X42.here hx hby at_210 rfl ?_
 refine t_iconst 214 (r := 1) X42.here hx hby at_213 (by decide) rfl ?_
 refine t_goto (pc := 214) 218 X42.here hx hby at_214 (by decide) (by decide) ?_
 exact retN X42 hx (t := .boolean) hret (by simp) (hb hby at_218) hr
theorem ef_15 (x1 : Addr) (m : MethodId) : entryFrame m #[.null, (.ref x1)] 2 = mkF m 0 #[.val .null, .val (.ref x1)] [] := by first | (simp [entryFrame, mkF, argsToLocals, Value.category]; done) | rfl
def Q_r43_requireTextOrNull (Z : State) (o1 : Addr) (h0 : Heap) (n0 : Nat) (v : Option Value) (h : Heap) (L : List Loc) : Prop := v = some .null ∧ Fr n0 L ∧ h = h0
theorem r43_requireTextOrNull (l : Launch) (Z : State) (a0 : Array Value) (hw : HW Z a0) (ws : List Jvm.Cond) (o1 : Addr) (h0 : Heap) (n0 : Nat) (Z0 : n0 ≤ h0.size) :
    MF l Z y38_requireTextOrNull b30_ 2 (some (.object "java/lang/String")) ws ⟨0, 0, 0, 0⟩ #[.null, (.ref o1)] h0 (Q_r43_requireTextOrNull Z o1 h0 n0) := by
 refine own_body (plainFor_of_name pn_BeanDefinition762) (ef_15 o1) (by decide) (by decide) ?_
 intro p e s m below meth c s₁ hx hby hml hown hnm hret hZ hh e0 X0
 have N0 := Fr.nil n0
 refine ⟨s₁, _, some .null, X0, (fun h => by cases h <;> rfl), ?_, fun fs hr => ?_⟩
 · show Q_r43_requireTextOrNull Z o1 h0 n0 _ s₁.heap _
   rw [e0]
   exact ⟨rfl, N0, rfl⟩
 refine t_aloadN 1 X0.here hx hby d362 rfl rfl rfl ?_
 refine t_ifnullYes (pc := 1) 20 X0.here hx hby d363 (by decide) (by decide) ?_
 refine t_aloadN 21 X0.here hx hby d455 rfl rfl rfl ?_
 jvm_step X0.here [X0.here.top, hx, (hb hby d456), X0.method', hret, Value.isRef, FieldType.isReference]
 first | (intro acts; rw [hr _ acts rfl rfl rfl]) | rw [hr _ _ rfl rfl rfl]
 exact Steps.refl _
def Q_r44_singletonScope (Z : State) (o0 : Addr) (i_6 : Int32) (h0 : Heap) (n0 : Nat) (v : Option Value) (h : Heap) (L : List Loc) : Prop := v = some (.int 1) ∧ Fr n0 L ∧ KL h0 h []
theorem r44_singletonScope (l : Launch) (Z : State) (a0 : Array Value) (hw : HW Z a0) (ws : List Jvm.Cond) (o0 : Addr) (i_6 : Int32) (h0 : Heap) (n0 : Nat) (Z0 : n0 ≤ h0.size) (E_o0 : Ex5 Z h0 o0) (F_o0_scope : Fd22 Z h0 o0 .null) (F_o0_parentName : Fd21 Z h0 o0 .null) (sCS : SCS Z i_6) (hp0 : ¬ (i_6 = (0 : Int32))) (O0 : Old Z n0 h0) :
    OMH l Z consts_1 [] y39_singletonScope b40_ 1 (some .boolean) ws ⟨3, 4, 80, 54⟩ #[(.ref o0)] h0 (Q_r44_singletonScope Z o0 i_6 h0 n0) := by
 refine own_bodyH (k := 4) (n := 80) (own_EW hw) (plainFor_of_name pn_BeanDefinition762) (ef_1 o0) (by decide) (by decide) ?_
 intro p e s m below meth c s₁ hx hby hml hown hnm hret hZ e0 hS0 hk0 X0 hC0 hSF0
 have N0 := Fr.nil n0
 obtain ⟨c1, T1, h1, k1, b1, kb1, X1, e1, E1, hS1, hk1, hZ1, hown1, Ex1, Fc1, Fv1, Ar1, lta1, ltb1, hC1, Lt1, hne1, st1⟩ := ldcCH X0 hx hZ hown (w315 hw) (own_wS hw) e0 hS0 hk0 (own_EW hw) (by decide) (CHr.refl hC0).1 (vs := [(.int 115), (.int 105), (.int 110), (.int 103), (.int 108), (.int 101), (.int 116), (.int 111), (.int 110)]) (z := 9) ⟨by decide, rfl⟩ (by decide) rfl (g := (mkF m 0 #[vr o0] [])) rfl (hb hby d461) (n := 36) (by decide) (by decide) (by decide) (by decide)
 have K1 := KL.ofE E1
 have Ah1 := (CHr.refl hC0).trans hC1
 have f3 := (kFld K1 F_o0_scope nw0)
 have f4 := (kFld K1 F_o0_parentName nw0)
 have f5 := (kExa K1 E_o0)
 obtain ⟨_, T2, L2, X2, hS2, hk2, hZ2, hown2, hQ2, hC2, st2⟩ := own_Hvirtual X1 hx hZ1 hown1 (w316 hw) (w317 hw) (nfS hZ1 (w319 hw)) (w319 hw) (w318 hw) (w33 hw) (w320 hw) (by decide) (r20_getScope l Z a0 hw [] o0 h1 n0 (Nat.le_trans Z0 K1.1) f3 f4) e1 f5 (W := 1) (by decide) (g := (mkF m 3 #[vr o0] [(.ref o0), (.ref c1)])) rfl hml.symm (argsL := []) (rest := [(.ref c1)]) (lenOf pd_13 rfl) rfl rfl (own_wr rfl rfl) (hb hby d463) hS1 hk1 (own_EW hw) Ah1.1 sf0
 obtain ⟨c3_2, b3_2, kb3_2, rfl, N2q, K2, Q2_0, Q2_1, Q2_2, Q2_3, Q2_4, Q2_5⟩ := hQ2
 have N2 := Fr.app N0 N2q
 have Ah2 := Ah1.trans hC2
 have f8 := (kOld K2 (kOld K1 O0 na0) na0)
 have f9 := (kFld K2 Fc1 nw0)
 have f10 := (kFld K2 Fv1 nw0)
 have f11 := (kArv K2 Ar1 na0)
 have sz_0_2 := (Nat.le_trans K1.1 K2.1)
 have f12 := (kExa K2 Ex1)
 obtain ⟨_, T7, L7, X7, hQ7, st7⟩ := own_virtual X2 hx hZ2 hown2 (w323 hw) (w324 hw) (nfS hZ2 (w326 hw)) (w326 hw) (w325 hw) (w4 hw) (w327 hw) (by decide) (r_eqs l Z a0 hw [] c1 c3_2 b1 b3_2 i_6 kb1 kb3_2 T2.heap n0 (Nat.le_trans Z0 sz_0_2) hp0 Q2_2 sCS f8 f9 Q2_3 f10 Q2_4 f11 Q2_5) rfl f12 (W := 0) (by decide) (g := (mkF m 6 #[vr o0] [(.ref c3_2), (.ref c1)])) rfl hml.symm (argsL := [(.ref c3_2)]) (rest := []) (lenOf pd_14 rfl) rfl rfl (own_wr rfl rfl) (hb hby d466)
 obtain ⟨rfl, N7q, e7⟩ := hQ7
 have N7 := Fr.app N2 N7q
 have C0 := (KL.refl h0 []).trans K1 na0
 have C1 := C0.trans K2 na0
 refine ⟨T7, _, some (.int 1), _, _, X7, hS2, (by rw [e7]; exact hk2), (fun h => by cases h <;> rfl), ?_, (by rw [e7]; exact Ah2), hZ2, fun fs hr => ?_⟩
 · show Q_r44_singletonScope Z o0 i_6 h0 n0 _ T7.heap _
   rw [e7]
   exact ⟨rfl, N7, C1⟩
 refine st1 _ ?_
 refine t_aloadN 3 X1.here hx hby d462 rfl rfl rfl ?_
 refine st2 _ ?_
 refine st7 _ ?_
 exact retN X7 hx (t := .boolean) hret (by simp) (hb hby d468) hr
theorem ef_16 (x0 : Addr) (m : MethodId) : entryFrame m #[(.ref x0), .null] 2 = mkF m 0 #[.val (.ref x0), .val .null] [] := by first | (simp [entryFrame, mkF, argsToLocals, Value.category]; done) | rfl
def WS_r42_setParentName (Z : State) (o0 : Addr) : List (Addr × Nat) := [(o0, (sl21 Z)), (o0, (sl5 Z))]
def Q_r42_setParentName (Z : State) (o0 o_1 o_2 : Addr) (k_o_2 : ClassId) (o_6 : Addr) (i_10 : Int32) (h0 : Heap) (n0 : Nat) (v : Option Value) (h : Heap) (L : List Loc) : Prop := v = none ∧ Fr n0 L ∧ KL h0 h (WS_r42_setParentName Z o0) ∧ Fd21 Z h o0 .null ∧ Fd5 Z h o0 (.int 1)
theorem r42_setParentName (l : Launch) (Z : State) (a0 : Array Value) (hw : HW Z a0) (ws : List Jvm.Cond) (o0 o_1 o_2 : Addr) (k_o_2 : ClassId) (o_6 : Addr) (i_10 : Int32) (h0 : Heap) (n0 : Nat) (Z0 : n0 ≤ h0.size) (E_o0 : Ex5 Z h0 o0) (F_o0_frozen : Fd20 Z h0 o0 z0) (F_o0_outers : Fd19 Z h0 o0 (.ref o_1)) (E_o_1 : Ex6 Z h0 o_1) (F_o_1_elements : Fd28 Z h0 o_1 (.ref o_2)) (V_o_2 : Arv Z h0 o_2 k_o_2 (.object "java/lang/Object") (0 : Int32) [] .null) (F_o0_changeListeners : Fd18 Z h0 o0 (.ref o_1)) (F_o0_parentName : Fd21 Z h0 o0 (.ref o_6)) (g_o0 : n0 ≤ o0) (F_o0_scope : Fd22 Z h0 o0 .null) (sCS : SCS Z i_10) (hp0 : ¬ (i_10 = (0 : Int32))) (O0 : Old Z n0 h0) (F_o0_singleton : Fd5 Z h0 o0 z0) :
    OMH l Z consts_1 [] y40_setParentName b22_ 2 none ws ⟨5, 8, 268, 67⟩ #[(.ref o0), .null] h0 (Q_r42_setParentName Z o0 o_1 o_2 k_o_2 o_6 i_10 h0 n0) := by
 refine own_bodyH (k := 8) (n := 268) (own_EW hw) (plainFor_of_name pn_BeanDefinition762) (ef_16 o0) (by decide) (by decide) ?_
 intro p e s m below meth c s₁ hx hby hml hown hnm hret hZ e0 hS0 hk0 X0 hC0 hSF0
 have N0 := Fr.nil n0
 obtain ⟨_, T3, L3, X3, hQ3, st3⟩ := own_private X0 hx hZ hown (w194 hw) (w195 hw) (w192 hw) rfl (w196 hw) (w33 hw) (w197 hw) (by decide) (r22_beginChange l Z a0 hw [] o0 o_1 o_2 k_o_2 h0 n0 Z0 E_o0 F_o0_frozen F_o0_outers E_o_1 F_o_1_elements V_o_2 F_o0_changeListeners) e0 E_o0 (W := 0) (by decide) (g := (mkF m 1 #[vr o0, .val .null] [(.ref o0)])) rfl hml.symm (argsL := []) (rest := []) (lenOf pd_9 rfl) rfl rfl (own_wr rfl rfl) (hb hby d291)
 obtain ⟨rfl, N3q, K3⟩ := hQ3
 have N3 := Fr.app N0 N3q
 have Ck0 := own_chK K3 na0 (CHr.refl hC0).1
 have Ah1 := (CHr.refl hC0).trans Ck0.1
 obtain ⟨c4, T4, h4, k4, b4, kb4, X4, e4, E4, hS4, hk4, hZ4, hown4, Ex4, Fc4, Fv4, Ar4, lta4, ltb4, hC4, Lt4, hne4, st4⟩ := ldcCH X3 hx hZ hown (w258 hw) (own_wS hw) rfl hS0 (Nat.le_trans hk0 K3.1) (own_EW hw) (by decide) Ah1.1 (vs := [(.int 65), (.int 32), (.int 112), (.int 97), (.int 114), (.int 101), (.int 110), (.int 116), (.int 32), (.int 100), (.int 101), (.int 102), (.int 105), (.int 110), (.int 105), (.int 116), (.int 105), (.int 111), (.int 110), (.int 39), (.int 115), (.int 32), (.int 110), (.int 97), (.int 109), (.int 101), (.int 32), (.int 109), (.int 117), (.int 115), (.int 116), (.int 32), (.int 110), (.int 111), (.int 116), (.int 32), (.int 98), (.int 101), (.int 32), (.int 98), (.int 108), (.int 97), (.int 110), (.int 107)]) (z := 44) ⟨by decide, rfl⟩ (by decide) rfl (g := (mkF m 6 #[vr o0, .val .null] [.null, (.ref o0)])) rfl (hb hby d360) (n := 176) (by decide) (by decide) (by decide) (by decide)
 have K4 := KL.ofE E4
 have Ah2 := Ah1.trans hC4
 have sz_0_2 := (Nat.le_trans K3.1 K4.1)
 obtain ⟨_, T5, L5, X5, hQ5, st5⟩ := own_static X4 hx hZ4 hown4 (w261 hw) (w262 hw) (w33 hw) (w263 hw) (by decide) (r43_requireTextOrNull l Z a0 hw [] c4 h4 n0 (Nat.le_trans Z0 sz_0_2)) e4 (W := 1) (by decide) (g := (mkF m 8 #[vr o0, .val .null] [(.ref c4), .null, (.ref o0)])) rfl hml.symm (argsL := [.null, (.ref c4)]) (rest := [(.ref o0)]) (lenOf pd_24 rfl) rfl rfl (own_wr rfl rfl) (hb hby d361)
 obtain ⟨rfl, N5q, e5⟩ := hQ5
 have N5 := Fr.app N3 N5q
 have f7 := (kFld K4 (kFld K3 F_o0_parentName nw0) nw0)
 have f8 := (kExa K4 (kExa K3 E_o0))
 obtain ⟨T9, h9, X9, e9, W9, st9⟩ := putF X5 hx hZ4 hown4 (host := "") (Or.inl (w309 hw)) Via.refl e5 f7 f8 (Or.inl (w310 hw)) (w32 hw) (ty := (.object "java/lang/String")) (by decide) rfl rfl (g := (mkF m 11 #[vr o0, .val .null] [.null, (.ref o0)])) rfl rfl (hb hby d457)
 have K9 := KL.ofW W9
 have Ck2 := own_chK K9 (naF (Safe.exa hZ4.alike f8 (by decide) (by decide)) na0) Ah2.1
 have Ah3 := Ah2.trans Ck2.1
 have Fw9 : Fd21 Z h9 o0 .null := Fld.same W9 f7
 have N9 := Fr.snoc X9 N5 g_o0
 have f12 := (kExa K9 f8)
 have f13 := (kFld K9 (kFld K4 (kFld K3 F_o0_scope nw0) nw0) (nwR (sn_264 hw) nw0))
 have f14 := (kOld K9 (kOld K4 (kOld K3 O0 na0) na0) (naG g_o0 na0))
 have sz_0_3 := (Nat.le_trans sz_0_2 K9.1)
 obtain ⟨_, T11, L11, X11, hS11, hk11, hZ11, hown11, hQ11, hC11, st11⟩ := own_Hprivate X9 hx hZ4 hown4 (w311 hw) (w312 hw) (w192 hw) rfl (w313 hw) (w33 hw) (w314 hw) (by decide) (r44_singletonScope l Z a0 hw [] o0 i_10 h9 n0 (Nat.le_trans Z0 sz_0_3) f12 f13 Fw9 sCS hp0 f14) e9 f12 (W := 1) (by decide) (g := (mkF m 16 #[vr o0, .val .null] [(.ref o0), (.ref o0)])) rfl hml.symm (argsL := []) (rest := [(.ref o0)]) (lenOf pd_16 rfl) rfl rfl (own_wr rfl rfl) (hb hby d460) hS4 (Nat.le_trans hk4 K9.1) (own_EW hw) Ah3.1 sf0
 obtain ⟨rfl, N11q, K11⟩ := hQ11
 have N11 := Fr.app N9 N11q
 have Ah4 := Ah3.trans hC11
 have f15 := (kFld K11 (kFld K9 (kFld K4 (kFld K3 F_o0_singleton nw0) nw0) (nwR (sn_265 hw) nw0)) nw0)
 have f16 := (kExa K11 f12)
 obtain ⟨T17, h17, X17, e17, W17, st17⟩ := putF X11 hx hZ11 hown11 (host := "") (Or.inl (w38 hw)) Via.refl rfl f15 f16 (Or.inl (w39 hw)) (w32 hw) (ty := .boolean) (by decide) (by decide) (by decide) (g := (mkF m 19 #[vr o0, .val .null] [(.int 1), (.ref o0)])) rfl rfl (hb hby d469)
 have K17 := KL.ofW W17
 have Ck4 := own_chK K17 (naF (Safe.exa hZ11.alike f16 (by decide) (by decide)) na0) Ah4.1
 have Ah5 := Ah4.trans Ck4.1
 have Fw17 : Fd5 Z h17 o0 (.int 1) := Fld.same W17 f15
 have N17 := Fr.snoc X17 N11 g_o0
 have C0 := (KL.refl h0 (WS_r42_setParentName Z o0)).trans K3 na0
 have C1 := C0.trans K4 na0
 have C2 := C1.trans K9 (naO (own_mi 0 rfl) na0)
 have C3 := C2.trans K11 na0
 have C4 := C3.trans K17 (naO (own_mi 1 rfl) na0)
 have f18 := (kFld K17 (kFld K11 Fw9 nw0) (nwR (sn_251 hw) nw0))
 refine ⟨T17, _, none, _, _, X17, hS11, (by rw [e17]; exact (Nat.le_trans hk11 K17.1)), (fun h => by cases h <;> rfl), ?_, (by rw [e17]; exact Ah5), hZ11, fun fs hr => ?_⟩
 · show Q_r42_setParentName Z o0 o_1 o_2 k_o_2 o_6 i_10 h0 n0 _ T17.heap _
   rw [e17]
   exact ⟨rfl, N17, C4, f18, Fw17⟩
 refine t_aloadN 1 X0.here hx hby d290 rfl rfl rfl ?_
 refine st3 _ ?_
 refine t_aloadN 5 X3.here hx hby d358 rfl rfl rfl ?_
 refine t_aloadN 6 X3.here hx hby d359 rfl rfl rfl ?_
 refine st4 _ ?_
 refine st5 _ ?_
 refine st9 _ ?_
 refine t_aloadN 15 X9.here hx hby d458 rfl rfl rfl ?_
 refine t_aloadN 16 X9.here hx hby d459 rfl rfl rfl ?_
 refine st11 _ ?_
 refine st17 _ ?_
 exact X17.returnOut hx hret (hb hby d470) hr
theorem sn_281 (hw : HW Z a0) : sl20 Z ≠ sl21 Z := slot_ne (a0 := a0) (Or.inl (w203 hw)) (Or.inl (w310 hw)) (by decide) (t := .boolean) (t' := ft6_) (by decide) (by decide)
theorem sn_282 (hw : HW Z a0) : sl19 Z ≠ sl21 Z := slot_ne (a0 := a0) (Or.inl (w188 hw)) (Or.inl (w310 hw)) (by decide) (t := ft0_) (t' := ft6_) (by decide) (by decide)
theorem sn_283 (hw : HW Z a0) : sl18 Z ≠ sl21 Z := slot_ne (a0 := a0) (Or.inl (w186 hw)) (Or.inl (w310 hw)) (by decide) (t := ft0_) (t' := ft6_) (by decide) (by decide)
theorem law_02 (l : Launch) (Z : State) (a0 : Array Value) (hw : HW Z a0) (ws : List Jvm.Cond) (p0 p1 p2 p3 cs : Int32) (st_NO st_DC st_EL el_EL st_CD st_A : Addr) (tA : List Value) (m_AL m_UL m_UR m_LM m_UM : Addr) (k_el_EL k_st_A : ClassId) (h0 : Heap) (n0 : Nat) (Z0 : n0 ≤ h0.size) (hcs : ¬ (cs = (0 : Int32))) (hA : TabA tA) (hs : ((p0 &&& (2147483647 : Int32)) - ((p0 &&& (2147483647 : Int32)) / (3 : Int32)) * (3 : Int32)) = (0 : Int32)) (hpm : (p1 &&& (3 : Int32)) = (2 : Int32)) (sCS : SCS Z cs) (O0 : Old Z n0 h0) (S_DEFAULTCAPACITY_EMPTY_ELEMENTDATA : Sa0 Z (.ref st_DC)) (S_NO : Sa2 Z (.ref st_NO)) (M_java_util_ArrayList : OMir Z "java/util/ArrayList" m_AL) (M_java_util_Collections_UnmodifiableList : OMir Z "java/util/Collections$UnmodifiableList" m_UL) (M_java_util_Collections_UnmodifiableRandomAccessList : OMir Z "java/util/Collections$UnmodifiableRandomAccessList" m_UR) (M_java_util_LinkedHashMap : OMir Z "java/util/LinkedHashMap" m_LM) (M_java_util_Collections_UnmodifiableMap : OMir Z "java/util/Collections$UnmodifiableMap" m_UM) (S_EMPTY_LIST : Sa1 Z (.ref st_EL)) (E_st_EL : Ex6 Z h0 st_EL) (F_st_EL_elements : Fd28 Z h0 st_EL (.ref el_EL)) (V_el_EL : Arv Z h0 el_EL k_el_EL (.object "java/lang/Object") (0 : Int32) [] .null) (S_instance : Sa4 Z (.ref st_CD)) (E_st_CD : Ex8 Z h0 st_CD) (S_A : Sa3 Z (.ref st_A)) (V_st_A : Arv Z h0 st_A k_st_A .int 256 tA z0) :
    LawM l Z ws p0 p1 p2 p3 h0 n0 := by
 refine own_bodyH (k := 30) (n := 643) (y := x) (Q := fun v _ L => Q_law n0 v L) (own_EW hw) (plainFor_of_name pn_BeanDefinitionGetScopePinLaw149) (ef_law p0 p1 p2 p3) (by decide) (by decide) ?_
 intro p e s m below meth c s₁ hx hby hml hown hnm hret hZ e0 hS0 hk0 X0 hC0 hSF0
 have N0 := Fr.nil n0
 obtain ⟨T1, h1, k1, X1, e1, E1, A1, st1⟩ := newP (aty := .char) X0 hx hZ (w1 hw) e0 (g := (mkF m 14 #[vi p0, vi p1, vi p2, vi p3, vi 0, vi 2, .unset, .unset, .unset, .unset, .unset, .unset] [(.int 2)])) rfl (hb hby at_14) rfl (by decide) (cap := 2) (by decide) (by decide) (by decide) (by decide)
 obtain ⟨b1, g1⟩ : ∃ z, z = h0.size := ⟨_, rfl⟩
 rw [← g1] at A1 st1
 have ge_b1 : h0.size ≤ b1 := Nat.le_of_eq g1.symm
 have K1 := KL.ofE E1
 have Ck0 := own_chK K1 na0 (CHr.refl hC0).1
 have Ah1 := (CHr.refl hC0).trans Ck0.1
 have V1 : Arv Z h1 b1 k1 .char 2 [z0, z0] z0 := (Arv.new A1 (by decide)).pad (pad_rep [] z0 2)
 obtain ⟨T2, h2, X2, e2, W2, V2, st2⟩ := own_astC X1 hx hZ e1 V1 (j := 0) (by decide) 0 rfl (Nat.le_of_ble_eq_true rfl) (g := (mkF m 32 #[vi p0, vi p1, vi p2, vi p3, vi 0, vi 2, vr b1, .unset, .unset, .unset, .unset, .unset] [(.int (own_c0 p2)), z0, (.ref b1)])) rfl rfl (hb hby at_32)
 rw [show (nar .char (own_c0 p2)) = (own_c0 p2) from (own_c2c (own_c0a p2) (own_c0b p2))] at V2
 have gg3 := Nat.le_trans Z0 ge_b1
 have K2 := KL.ofW W2
 have Ck1 := own_chK K2 (naF (Ck0.2 _ (Safe.new ge_b1)) na0) Ah1.1
 have Ah2 := Ah1.trans Ck1.1
 replace V2 : Arv Z h2 b1 k1 .char 2 [(.int (own_c0 p2)), z0] z0 := V2
 have N2 := Fr.snoc X2 N0 gg3
 obtain ⟨T4, h4, X4, e4, W4, V4, st4⟩ := own_astC X2 hx hZ e2 V2 (j := 1) (by decide) 1 rfl (Nat.le_of_ble_eq_true rfl) (g := (mkF m 42 #[vi p0, vi p1, vi p2, vi p3, vi 0, vi 2, vr b1, .unset, .unset, .unset, .unset, .unset] [(.int (p3 &&& (255 : Int32))), (.int 1), (.ref b1)])) rfl rfl (hb hby at_42)
 rw [show (nar .char (p3 &&& (255 : Int32))) = (p3 &&& (255 : Int32)) from (i2c_mask _)] at V4
 have K4 := KL.ofW W4
 have sf5 := (Ck1.2 _ (Ck0.2 _ (Safe.new ge_b1)))
 have Ck2 := own_chK K4 (naF sf5 na0) Ah2.1
 have Ah3 := Ah2.trans Ck2.1
 replace V4 : Arv Z h4 b1 k1 .char 2 [(.int (own_c0 p2)), (.int (p3 &&& (255 : Int32)))] z0 := V4
 have N4 := Fr.snoc X4 N2 gg3
 obtain ⟨T6, h6, X6, e6, E6, A6, D6, -, st6⟩ := newO X4 hx hZ hown (w2 hw) (w3 hw) (w4 hw) e4 (g := (mkF m 43 #[vi p0, vi p1, vi p2, vi p3, vi 0, vi 2, vr b1, .unset, .unset, .unset, .unset, .unset] [])) rfl (hb hby at_43) (by decide) (by decide)
 obtain ⟨b6, g6⟩ : ∃ z, z = h4.size := ⟨_, rfl⟩
 rw [← g6] at A6 D6 st6
 have ge_b6 : h4.size ≤ b6 := Nat.le_of_eq g6.symm
 have K6 := KL.ofE E6
 have Ck3 := own_chK K6 na0 Ah3.1
 have Ah4 := Ah3.trans Ck3.1
 have F_b6_coder : Fd3 Z h6 b6 z0 := D6 (Or.inr (w28 hw)) (ty := .byte) (by decide)
 have F_b6_value : Fd4 Z h6 b6 .null := D6 (Or.inr (w30 hw)) (ty := (.array .byte)) (by decide)
 have f8 := (kArv K6 V4 na0)
 have f9 := (kOld K6 (kOld K4 (kOld K2 (kOld K1 O0 na0) (naG gg3 na0)) (naG gg3 na0)) na0)
 have sz_0_2 := (Nat.le_trans K1.1 K2.1)
 have sz_0_3 := (Nat.le_trans sz_0_2 K4.1)
 have gg10 := Nat.le_trans Z0 (Nat.le_trans sz_0_3 ge_b6)
 have sz_0_4 := (Nat.le_trans sz_0_3 K6.1)
 obtain ⟨_, T7, L7, X7, hQ7, st7⟩ := own_init X6 hx hZ rfl hown (w5 hw) (w6 hw) (w4 hw) (w7 hw) (by decide) (r7__init_ l Z a0 hw [] b6 b1 (own_c0 p2) (p3 &&& (255 : Int32)) k1 cs h6 n0 (Nat.le_trans Z0 sz_0_4) f8 sCS F_b6_coder A6 F_b6_value f9 hcs (own_c0b p2) (own_m255b _) gg10) e6 (W := 1) (by decide) (g := (mkF m 49 #[vi p0, vi p1, vi p2, vi p3, vi 0, vi 2, vr b1, .unset, .unset, .unset, .unset, .unset] [(.ref b1), (.ref b6), (.ref b6)])) rfl hml.symm (argsL := [(.ref b1)]) (rest := [(.ref b6)]) (lenOf pd_8 rfl) rfl rfl (own_wr rfl rfl) (hb hby at_49)
 obtain ⟨b1_6_4_7, k1_6_4_7, rfl, N7q, K7, Q7_0, Q7_1, Q7_2, Q7_3⟩ := hQ7
 have N7 := Fr.app N4 N7q
 have Ck4 := own_chK K7 (naF (Ck3.2 _ (Safe.new ge_b6)) (naF (Ck3.2 _ (Safe.new ge_b6)) na0)) Ah4.1
 have Ah5 := Ah4.trans Ck4.1
 obtain ⟨T12, h12, X12, e12, E12, A12, D12, -, st12⟩ := newO X7 hx hZ hown (w31 hw) (w32 hw) (w33 hw) rfl (g := (mkF m 54 #[vi p0, vi p1, vi p2, vi p3, vi 0, vi 2, vr b1, vr b6, .unset, .unset, .unset, .unset] [])) rfl (hb hby at_54) (by decide) (by decide)
 obtain ⟨b12, g12⟩ : ∃ z, z = T7.heap.size := ⟨_, rfl⟩
 rw [← g12] at A12 D12 st12
 have ge_b12 : T7.heap.size ≤ b12 := Nat.le_of_eq g12.symm
 have K12 := KL.ofE E12
 have Ck5 := own_chK K12 na0 Ah5.1
 have Ah6 := Ah5.trans Ck5.1
 have F_b12_singleton : Fd5 Z h12 b12 z0 := D12 (Or.inl (w39 hw)) (ty := .boolean) (by decide)
 have F_b12_initMethodRequired : Fd6 Z h12 b12 z0 := D12 (Or.inl (w41 hw)) (ty := .boolean) (by decide)
 have F_b12_destroyMethodRequired : Fd7 Z h12 b12 z0 := D12 (Or.inl (w43 hw)) (ty := .boolean) (by decide)
 have F_b12_dependsOn : Fd8 Z h12 b12 .null := D12 (Or.inr (w69 hw)) (ty := (.object "java/util/List")) (by decide)
 have F_b12_autowireCandidate : Fd9 Z h12 b12 z0 := D12 (Or.inl (w71 hw)) (ty := .boolean) (by decide)
 have F_b12_autowireMode : Fd10 Z h12 b12 .null := D12 (Or.inl (w76 hw)) (ty := (.object "com/example/graft_container/graftcontainer/BeanDefinition$Autowire")) (by decide)
 have F_b12_qualifiers : Fd11 Z h12 b12 .null := D12 (Or.inr (w104 hw)) (ty := (.object "java/util/Map")) (by decide)
 have F_b12_propertyValues : Fd12 Z h12 b12 .null := D12 (Or.inr (w106 hw)) (ty := (.object "java/util/List")) (by decide)
 have F_b12_constructorArguments : Fd13 Z h12 b12 .null := D12 (Or.inr (w108 hw)) (ty := (.object "java/util/List")) (by decide)
 have F_b12_dependsOnView : Fd14 Z h12 b12 .null := D12 (Or.inr (w153 hw)) (ty := (.object "java/util/List")) (by decide)
 have F_b12_qualifiersView : Fd15 Z h12 b12 .null := D12 (Or.inr (w174 hw)) (ty := (.object "java/util/Map")) (by decide)
 have F_b12_propertyValuesView : Fd16 Z h12 b12 .null := D12 (Or.inr (w176 hw)) (ty := (.object "java/util/List")) (by decide)
 have F_b12_constructorArgumentsView : Fd17 Z h12 b12 .null := D12 (Or.inr (w178 hw)) (ty := (.object "java/util/List")) (by decide)
 have F_b12_changeListeners : Fd18 Z h12 b12 .null := D12 (Or.inl (w186 hw)) (ty := (.object "java/util/List")) (by decide)
 have F_b12_outers : Fd19 Z h12 b12 .null := D12 (Or.inl (w188 hw)) (ty := (.object "java/util/List")) (by decide)
 have F_b12_frozen : Fd20 Z h12 b12 z0 := D12 (Or.inl (w203 hw)) (ty := .boolean) (by decide)
 have F_b12_parentName : Fd21 Z h12 b12 .null := D12 (Or.inl (w310 hw)) (ty := (.object "java/lang/String")) (by decide)
 have F_b12_scope : Fd22 Z h12 b12 .null := D12 (Or.inl (w322 hw)) (ty := (.object "java/lang/String")) (by decide)
 have sz_0_5 := (Nat.le_trans sz_0_4 K7.1)
 have gg14 := Nat.le_trans Z0 (Nat.le_trans sz_0_5 ge_b12)
 have f15 := (kOld K12 (kOld K7 f9 (naG gg10 (naG gg10 na0))) na0)
 have sz_0_6 := (Nat.le_trans sz_0_5 K12.1)
 obtain ⟨_, T13, L13, X13, hQ13, st13⟩ := own_init X12 hx hZ rfl hown (w34 hw) (w35 hw) (w33 hw) (w36 hw) (by decide) (r12__init_ l Z a0 hw [] b12 st_DC st_NO m_AL m_UL m_UR m_LM m_UM st_EL h12 n0 (Nat.le_trans Z0 sz_0_6) F_b12_singleton A12 gg14 F_b12_initMethodRequired F_b12_destroyMethodRequired S_DEFAULTCAPACITY_EMPTY_ELEMENTDATA f15 F_b12_dependsOn F_b12_autowireCandidate S_NO F_b12_autowireMode F_b12_qualifiers F_b12_propertyValues F_b12_constructorArguments M_java_util_ArrayList M_java_util_Collections_UnmodifiableList M_java_util_Collections_UnmodifiableRandomAccessList F_b12_dependsOnView M_java_util_LinkedHashMap M_java_util_Collections_UnmodifiableMap F_b12_qualifiersView F_b12_propertyValuesView F_b12_constructorArgumentsView S_EMPTY_LIST F_b12_changeListeners F_b12_outers) e12 (W := 1) (by decide) (g := (mkF m 58 #[vi p0, vi p1, vi p2, vi p3, vi 0, vi 2, vr b1, vr b6, .unset, .unset, .unset, .unset] [(.ref b12), (.ref b12)])) rfl hml.symm (argsL := []) (rest := [(.ref b12)]) (lenOf pd_9 rfl) rfl rfl (own_wr rfl rfl) (hb hby at_58)
 obtain ⟨b9_13, b27_13, b34_13, b42_13, r_55_13, r_64_13, r_71_13, r_78_13, rfl, N13q, K13, Q13_0, Q13_1, Q13_2, Q13_3, Q13_4, Q13_5, Q13_6, Q13_7, Q13_8, Q13_9, Q13_10, Q13_11, Q13_12, Q13_13, Q13_14, Q13_15, Q13_16, Q13_17, Q13_18, Q13_19, Q13_20, Q13_21, Q13_22⟩ := hQ13
 have N13 := Fr.app N7 N13q
 have Ck6 := own_chK K13 (naFM 15 rfl (Safe.exa hZ.alike A12 (by decide) (by decide)) na0) Ah6.1
 have Ah7 := Ah6.trans Ck6.1
 have f17 := (kExa K13 A12)
 have f18 := (kFld K13 F_b12_frozen (nwf_2 hw b12))
 have f19 := (kExa K13 (kExa K12 (kExa K7 (kExa K6 (kExa K4 (kExa K2 (kExa K1 E_st_EL)))))))
 have lt_st_EL : st_EL < h0.size := Exa.lt E_st_EL
 have ne20 := lt_ne lt_st_EL ge_b1
 have ne21 := lt_ne (Nat.lt_of_lt_of_le lt_st_EL sz_0_3) ge_b6
 have ne22 := lt_ne (Nat.lt_of_lt_of_le lt_st_EL sz_0_5) ge_b12
 have f23 := (kFld K13 (kFld K12 (kFld K7 (kFld K6 (kFld K4 (kFld K2 (kFld K1 F_st_EL_elements nw0) (nwL ne20 nw0)) (nwL ne20 nw0)) nw0) (nwL ne21 (nwL ne21 nw0))) nw0) (nwM 15 rfl ne22 nw0))
 have lt_el_EL : el_EL < h0.size := Arv.lt V_el_EL
 have ne24 := lt_ne lt_el_EL ge_b1
 have ne25 := lt_ne (Nat.lt_of_lt_of_le lt_el_EL sz_0_3) ge_b6
 have ne26 := lt_ne (Nat.lt_of_lt_of_le lt_el_EL sz_0_5) ge_b12
 have f27 := (kArv K13 (kArv K12 (kArv K7 (kArv K6 (kArv K4 (kArv K2 (kArv K1 V_el_EL na0) (naN (Ne.symm ne24) na0)) (naN (Ne.symm ne24) na0)) na0) (naN (Ne.symm ne25) (naN (Ne.symm ne25) na0))) na0) (naNM 15 rfl (Ne.symm ne26) na0))
 have f28 := (kExa K13 (kExa K12 (kExa K7 A6)))
 have lt_b6 : b6 < h6.size := Exa.lt A6
 have ne29 := lt_ne (Nat.lt_of_lt_of_le lt_b6 K7.1) ge_b12
 have f30 := (kFld K13 (kFld K12 Q7_1 nw0) (nwM 15 rfl ne29 nw0))
 have f31 := (kFld K13 (kFld K12 Q7_2 nw0) (nwM 15 rfl ne29 nw0))
 have lt_b1_6_4_7 : b1_6_4_7 < T7.heap.size := Arv.lt Q7_3
 have ne32 := lt_ne lt_b1_6_4_7 ge_b12
 have f33 := (kArv K13 (kArv K12 Q7_3 na0) (naNM 15 rfl (Ne.symm ne32) na0))
 have f34 := (kExa K13 (kExa K12 (kExa K7 (kExa K6 (kExa K4 (kExa K2 (kExa K1 E_st_CD)))))))
 have lt_st_A : st_A < h0.size := Arv.lt V_st_A
 have ne35 := lt_ne lt_st_A ge_b1
 have ne36 := lt_ne (Nat.lt_of_lt_of_le lt_st_A sz_0_3) ge_b6
 have ne37 := lt_ne (Nat.lt_of_lt_of_le lt_st_A sz_0_5) ge_b12
 have f38 := (kArv K13 (kArv K12 (kArv K7 (kArv K6 (kArv K4 (kArv K2 (kArv K1 V_st_A na0) (naN (Ne.symm ne35) na0)) (naN (Ne.symm ne35) na0)) na0) (naN (Ne.symm ne36) (naN (Ne.symm ne36) na0))) na0) (naNM 15 rfl (Ne.symm ne37) na0))
 have f39 := (kOld K13 f15 (naGM 15 rfl gg14 na0))
 have f40 := (kFld K13 F_b12_parentName (nwf_1 hw b12))
 have f41 := (kFld K13 F_b12_scope (nwf_0 hw b12))
 have sz_0_7 := (Nat.le_trans sz_0_6 K13.1)
 obtain ⟨_, T16, L16, X16, hS16, hk16, hZ16, hown16, hQ16, hC16, st16⟩ := own_Hvirtual X13 hx hZ hown (w189 hw) (w190 hw) (nfS hZ (w192 hw)) (w192 hw) (w191 hw) (w33 hw) (w193 hw) (by decide) (r21_setParentName l Z a0 hw [] b12 b6 st_EL el_EL k_el_EL cs b1_6_4_7 ((own_c0 p2).toInt8.toInt32) ((p3 &&& (255 : Int32)).toInt8.toInt32) k1_6_4_7 st_CD st_A tA k_st_A T13.heap n0 (Nat.le_trans Z0 sz_0_7) f17 f18 Q13_22 f19 f23 f27 Q13_21 f28 sCS f30 f31 f33 S_instance f34 S_A f38 f39 hcs (own_nsp p2 (by decide)) (own_nsp p2 (by decide)) (own_nws p2 hA) f40 gg14 f41 Q13_8) rfl f17 (W := 0) (by decide) (g := (mkF m 79 #[vi p0, vi p1, vi p2, vi p3, vi 0, vi 2, vr b1, vr b6, vr b12, .unset, .unset, .unset] [(.ref b6), (.ref b12)])) rfl hml.symm (argsL := [(.ref b6)]) (rest := []) (lenOf pd_25 rfl) rfl rfl (own_wr rfl rfl) (hb hby at_79) hS0 (Nat.le_trans hk0 sz_0_7) (own_EW hw) Ah7.1 sf0
 obtain ⟨rfl, N16q, K16, Q16_0, Q16_1⟩ := hQ16
 have N16 := Fr.app N13 N16q
 have Ah8 := Ah7.trans hC16
 have f43 := (kExa K16 f17)
 have f44 := (kFld K16 f18 (nwR (sn_281 hw) (nwR (sn_280 hw) nw0)))
 have f45 := (kFld K16 Q13_22 (nwR (sn_282 hw) (nwR (sn_117 hw) nw0)))
 have f46 := (kExa K16 f19)
 have f47 := (kFld K16 f23 (nwL ne22 (nwL ne22 nw0)))
 have f48 := (kArv K16 f27 (naN (Ne.symm ne26) (naN (Ne.symm ne26) na0)))
 have f49 := (kFld K16 Q13_21 (nwR (sn_283 hw) (nwR (sn_104 hw) nw0)))
 have f50 := (kFld K16 f41 (nwR (sn_264 hw) (nwR (sn_236 hw) nw0)))
 have f51 := (kOld K16 f39 (naG gg14 (naG gg14 na0)))
 have sz_0_8 := (Nat.le_trans sz_0_7 K16.1)
 obtain ⟨_, T42, L42, X42, hS42, hk42, hZ42, hown42, hQ42, hC42, st42⟩ := own_Hvirtual X16 hx hZ16 hown16 (w189 hw) (w190 hw) (nfS hZ16 (w192 hw)) (w192 hw) (w191 hw) (w33 hw) (w193 hw) (by decide) (r42_setParentName l Z a0 hw [] b12 st_EL el_EL k_el_EL b6 cs T16.heap n0 (Nat.le_trans Z0 sz_0_8) f43 f44 f45 f46 f47 f48 f49 Q16_0 gg14 f50 sCS hcs f51 Q16_1) rfl f43 (W := 0) (by decide) (g := (mkF m 91 #[vi p0, vi p1, vi p2, vi p3, vi 0, vi 2, vr b1, vr b6, vr b12, .unset, .unset, .unset] [.null, (.ref b12)])) rfl hml.symm (argsL := [.null]) (rest := []) (lenOf pd_25 rfl) rfl rfl (own_wr rfl rfl) (hb hby at_91) hS16 hk16 (own_EW hw) Ah8.1 sf0
 obtain ⟨rfl, N42q, K42, Q42_0, Q42_1⟩ := hQ42
 have N42 := Fr.app N16 N42q
 have Ah9 := Ah8.trans hC42
 have f53 := (kFld K42 f50 (nwR (sn_264 hw) (nwR (sn_236 hw) nw0)))
 have sz_0_9 := (Nat.le_trans sz_0_8 K42.1)
 have f54 := (kExa K42 f43)
 obtain ⟨_, T52, L52, X52, hS52, hk52, hZ52, hown52, hQ52, hC52, st52⟩ := own_Hvirtual X42 hx hZ42 hown42 (w328 hw) (w317 hw) (nfS hZ42 (w319 hw)) (w319 hw) (w318 hw) (w33 hw) (w320 hw) (by decide) (r20_getScope l Z a0 hw [] b12 T42.heap n0 (Nat.le_trans Z0 sz_0_9) f53 Q42_0) rfl f54 (W := 0) (by decide) (g := (mkF m 157 #[vi p0, vi p1, vi p2, vi p3, vi 0, vi 2, vr b1, vr b6, vr b12, vi 0, .unset, .unset] [(.ref b12)])) rfl hml.symm (argsL := []) (rest := []) (lenOf pd_13 rfl) rfl rfl (own_wr rfl rfl) (hb hby at_157) hS42 hk42 (own_EW hw) Ah9.1 sf0
 obtain ⟨c3_52, b3_52, kb3_52, rfl, N52q, K52, Q52_0, Q52_1, Q52_2, Q52_3, Q52_4, Q52_5⟩ := hQ52
 have N52 := Fr.app N42 N52q
 have Ah10 := Ah9.trans hC52
 obtain ⟨c55, T55, h55, k55, b55, kb55, X55, e55, E55, hS55, hk55, hZ55, hown55, Ex55, Fc55, Fv55, Ar55, lta55, ltb55, hC55, Lt55, hne55, st55⟩ := ldcCH X52 hx hZ52 hown52 (w329 hw) (own_wS hw) rfl hS52 hk52 (own_EW hw) (by decide) Ah10.1 (vs := [(.int 115), (.int 105), (.int 110), (.int 103), (.int 108), (.int 101), (.int 116), (.int 111), (.int 110)]) (z := 9) ⟨by decide, rfl⟩ (by decide) rfl (g := (mkF m 199 #[vi p0, vi p1, vi p2, vi p3, vi 0, vi 2, vr b1, vr b6, vr b12, vi 0, vr c3_52, .unset] [])) rfl (hb hby at_199) (n := 36) (by decide) (by decide) (by decide) (by decide)
 have K55 := KL.ofE E55
 have Ah11 := Ah10.trans hC55
 have f57 := (kExa K55 Q52_2)
 have f58 := (kOld K55 (kOld K52 (kOld K42 f51 (naG gg14 (naG gg14 na0))) na0) na0)
 have f59 := (kFld K55 Q52_3 nw0)
 have f60 := (kFld K55 Q52_4 nw0)
 have f61 := (kArv K55 Q52_5 na0)
 have sz_0_10 := (Nat.le_trans sz_0_9 K52.1)
 have sz_0_11 := (Nat.le_trans sz_0_10 K55.1)
 obtain ⟨_, T56, L56, X56, hQ56, st56⟩ := own_virtual X55 hx hZ55 hown55 (w335 hw) (w324 hw) (nfS hZ55 (w326 hw)) (w326 hw) (w325 hw) (w4 hw) (w327 hw) (by decide) (r_eqs l Z a0 hw [] c55 c3_52 b55 b3_52 cs kb55 kb3_52 h55 n0 (Nat.le_trans Z0 sz_0_11) hcs f57 sCS f58 Fc55 f59 Fv55 f60 Ar55 f61) e55 Ex55 (W := 0) (by decide) (g := (mkF m 228 #[vi p0, vi p1, vi p2, vi p3, vi 0, vi 2, vr b1, vr b6, vr b12, vi 0, vr c3_52, vr c55] [(.ref c3_52), (.ref c55)])) rfl hml.symm (argsL := [(.ref c3_52)]) (rest := []) (lenOf pd_14 rfl) rfl rfl (own_wr rfl rfl) (hb hby at_228)
 obtain ⟨rfl, N56q, e56⟩ := hQ56
 have N56 := Fr.app N52 N56q
 refine ⟨T56, _, some (.int 1), _, _, X56, hS55, (by rw [e56]; exact hk55), (fun h => by cases h <;> rfl), ?_, (by rw [e56]; exact Ah11), hZ55, fun fs hr => ?_⟩
 · show Q_law n0 _ _
   exact ⟨rfl, N56⟩
 refine t_iloadN 1 X0.here hx hby at_0 rfl rfl ?_
 refine X0.ldcInt hx hown (mvT hZ (w0 hw)) (g := (mkF m 1 #[vi p0, vi p1, vi p2, vi p3, .unset, .unset, .unset, .unset, .unset, .unset, .unset, .unset] [(.int p0)])) rfl (hb hby at_1) _ ?_
 refine t_iand 4 X0.here hx hby at_3 rfl rfl ?_
 refine t_iconst 5 (r := 3) X0.here hx hby at_4 (by decide) rfl ?_
 refine t_irem 6 (r := 0) X0.here hx hby at_5 (by decide) hs rfl ?_
 refine t_istore (pc' := 8) (L' := #[vi p0, vi p1, vi p2, vi p3, vi 0, .unset, .unset, .unset, .unset, .unset, .unset, .unset]) X0.here hx hby at_6 rfl rfl ?_
 refine t_iloadN 9 X0.here hx hby at_8 rfl rfl ?_
 refine t_iconst 10 (r := 3) X0.here hx hby at_9 (by decide) rfl ?_
 refine t_iand 11 (r := 2) X0.here hx hby at_10 hpm rfl ?_
 refine t_istore (pc' := 13) (L' := #[vi p0, vi p1, vi p2, vi p3, vi 0, vi 2, .unset, .unset, .unset, .unset, .unset, .unset]) X0.here hx hby at_11 rfl rfl ?_
 refine t_iconst 14 (r := 2) X0.here hx hby at_13 (by decide) rfl ?_
 refine st1 _ ?_
 refine t_astore (pc' := 18) (L' := #[vi p0, vi p1, vi p2, vi p3, vi 0, vi 2, vr b1, .unset, .unset, .unset, .unset, .unset]) X1.here hx hby at_16 rfl rfl rfl ?_
 refine t_aload 20 X1.here hx hby at_18 rfl rfl rfl ?_
 refine t_iconst 21 (r := 0) X1.here hx hby at_20 (by decide) rfl ?_
 refine t_bipush 23 (r := 33) X1.here hx hby at_21 (by decide) rfl ?_
 refine t_iloadN 24 X1.here hx hby at_23 rfl rfl ?_
 refine X1.ldcInt hx hown (mvT hZ (w0 hw)) (g := (mkF m 24 #[vi p0, vi p1, vi p2, vi p3, vi 0, vi 2, vr b1, .unset, .unset, .unset, .unset, .unset] [(.int p2), (.int 33), z0, (.ref b1)])) rfl (hb hby at_24) _ ?_
 refine t_iand 27 X1.here hx hby at_26 rfl rfl ?_
 refine t_bipush 29 (r := 94) X1.here hx hby at_27 (by decide) rfl ?_
 refine t_irem 30 X1.here hx hby at_29 (by decide) rfl rfl ?_
 refine t_iadd 31 (r := (own_c0 p2)) X1.here hx hby at_30 (Eq.refl (own_c0 p2)) rfl ?_
 refine t_i2c 32 (r := (own_c0 p2)) X1.here hx hby at_31 (own_c2c (own_c0a p2) (own_c0b p2)) rfl ?_
 refine st2 _ ?_
 refine t_aload 35 X2.here hx hby at_33 rfl rfl rfl ?_
 refine t_iconst 36 (r := 1) X2.here hx hby at_35 (by decide) rfl ?_
 refine t_iloadN 37 X2.here hx hby at_36 rfl rfl ?_
 refine t_sipush 40 (r := 255) X2.here hx hby at_37 (by decide) rfl ?_
 refine t_iand 41 X2.here hx hby at_40 rfl rfl ?_
 refine t_i2c 42 (r := (p3 &&& (255 : Int32))) X2.here hx hby at_41 (i2c_mask _) rfl ?_
 refine st4 _ ?_
 refine st6 _ ?_
 refine t_dup 47 X6.here hx hby at_46 rfl rfl ?_
 refine t_aload 49 X6.here hx hby at_47 rfl rfl rfl ?_
 refine st7 _ ?_
 refine t_astore (pc' := 54) (L' := #[vi p0, vi p1, vi p2, vi p3, vi 0, vi 2, vr b1, vr b6, .unset, .unset, .unset, .unset]) X7.here hx hby at_52 rfl rfl rfl ?_
 refine st12 _ ?_
 refine t_dup 58 X12.here hx hby at_57 rfl rfl ?_
 refine st13 _ ?_
 refine t_astore (pc' := 63) (L' := #[vi p0, vi p1, vi p2, vi p3, vi 0, vi 2, vr b1, vr b6, vr b12, .unset, .unset, .unset]) X13.here hx hby at_61 rfl rfl rfl ?_
 refine t_iload 65 X13.here hx hby at_63 rfl rfl ?_
 refine t_iconst 66 (r := 1) X13.here hx hby at_65 (by decide) rfl ?_
 refine t_icmpNo 69 X13.here hx hby at_66 (by decide) rfl ?_
 refine t_iload 71 X13.here hx hby at_69 rfl rfl ?_
 refine t_iconst 72 (r := 2) X13.here hx hby at_71 (by decide) rfl ?_
 refine t_icmpNo 75 X13.here hx hby at_72 (by decide) rfl ?_
 refine t_aload 77 X13.here hx hby at_75 rfl rfl rfl ?_
 refine t_aload 79 X13.here hx hby at_77 rfl rfl rfl ?_
 refine st16 _ ?_
 refine t_iload 84 X16.here hx hby at_82 rfl rfl ?_
 refine t_iconst 85 (r := 2) X16.here hx hby at_84 (by decide) rfl ?_
 refine t_icmpNo 88 X16.here hx hby at_85 (by decide) rfl ?_
 refine t_aload 90 X16.here hx hby at_88 rfl rfl rfl ?_
 refine t_aconst_null 91 X16.here hx hby at_90 rfl ?_
 refine st42 _ ?_
 refine t_iload 96 X42.here hx hby at_94 rfl rfl ?_
 refine t_iconst 97 (r := 1) X42.here hx hby at_96 (by decide) rfl ?_
 refine t_icmpYes (pc := 97) 110 X42.here hx hby at_97 (by decide) (by decide) (by decide) ?_
 refine t_iload 112 X42.here hx hby at_110 rfl rfl ?_
 refine t_iconst 113 (r := 2) X42.here hx hby at_112 (by decide) rfl ?_
 refine t_icmpYes (pc := 113) 123 X42.here hx hby at_113 (by decide) (by decide) (by decide) ?_
 refine t_iload 125 X42.here hx hby at_123 rfl rfl ?_
 refine t_iconst 126 (r := 3) X42.here hx hby at_125 (by decide) rfl ?_
 refine t_icmpYes (pc := 126) 136 X42.here hx hby at_126 (by decide) (by decide) (by decide) ?_
 refine t_iload 138 X42.here hx hby at_136 rfl rfl ?_
 refine t_iconst 139 (r := 1) X42.here hx hby at_138 (by decide) rfl ?_
 refine t_icmpNo 142 X42.here hx hby at_139 (by decide) rfl ?_
 refine t_iload 144 X42.here hx hby at_142 rfl rfl ?_
 refine t_iconst 145 (r := 3) X42.here hx hby at_144 (by decide) rfl ?_
 refine t_icmpYes (pc := 145) 152 X42.here hx hby at_145 (by decide) (by decide) (by decide) ?_
 refine t_iconst 153 (r := 0) X42.here hx hby at_152 (by decide) rfl ?_
 refine t_istore (pc' := 155) (L' := #[vi p0, vi p1, vi p2, vi p3, vi 0, vi 2, vr b1, vr b6, vr b12, vi 0, .unset, .unset]) X42.here hx hby at_153 rfl rfl ?_
 refine t_aload 157 X42.here hx hby at_155 rfl rfl rfl ?_
 refine st52 _ ?_
 refine t_astore (pc' := 162) (L' := #[vi p0, vi p1, vi p2, vi p3, vi 0, vi 2, vr b1, vr b6, vr b12, vi 0, vr c3_52, .unset]) X52.here hx hby at_160 rfl rfl rfl ?_
 refine t_iload 164 X52.here hx hby at_162 rfl rfl ?_
 refine t_iconst 165 (r := 1) X52.here hx hby at_164 (by decide) rfl ?_
 refine t_icmpYes (pc := 165) 175 X52.here hx hby at_165 (by decide) (by decide) (by decide) ?_
 refine t_iload 177 X52.here hx hby at_175 rfl rfl ?_
 refine t_iconst 178 (r := 2) X52.here hx hby at_177 (by decide) rfl ?_
 refine t_icmpYes (pc := 178) 188 X52.here hx hby at_178 (by decide) (by decide) (by decide) ?_
 refine t_iload 190 X52.here hx hby at_188 rfl rfl ?_
 refine t_ifYes (pc := 190) 199 X52.here hx hby at_190 (by decide) (by decide) (by decide) ?_
 refine st55 _ ?_
 refine t_astore (pc' := 203) (L' := #[vi p0, vi p1, vi p2, vi p3, vi 0, vi 2, vr b1, vr b6, vr b12, vi 0, vr c3_52, vr c55]) X55.here hx hby at_201 rfl rfl rfl ?_
 refine t_aload 205 X55.here hx hby at_203 rfl rfl rfl ?_
 refine t_ifnonnullYes (pc := 205) 219 X55.here hx hby at_205 (by decide) (by decide) ?_
 refine t_aload 221 X55.here hx hby at_219 rfl rfl rfl ?_
 refine t_ifnullNo 224 X55.here hx hby at_221 rfl ?_
 refine t_aload 226 X55.here hx hby at_224 rfl rfl rfl ?_
 refine t_aload 228 X55.here hx hby at_226 rfl rfl rfl ?_
 refine st56 _ ?_
 refine t_ifNo 234 X56.here hx hby at_231 (by decide) rfl ?_
 refine t_iconst 235 (r := 1) X56.here hx hby at_234 (by decide) rfl ?_
 refine t_goto (pc := 235) 239 X56.here hx hby at_235 (by decide) (by decide) ?_
 exact retN X56 hx (t := .boolean) hret (by simp) (hb hby at_239) hr
theorem law_03 (l : Launch) (Z : State) (a0 : Array Value) (hw : HW Z a0) (ws : List Jvm.Cond) (p0 p1 p2 p3 cs : Int32) (st_NO st_DC st_EL el_EL st_CD st_A : Addr) (tA : List Value) (m_AL m_UL m_UR m_LM m_UM : Addr) (k_el_EL k_st_A : ClassId) (h0 : Heap) (n0 : Nat) (Z0 : n0 ≤ h0.size) (hcs : ¬ (cs = (0 : Int32))) (hA : TabA tA) (hs : ((p0 &&& (2147483647 : Int32)) - ((p0 &&& (2147483647 : Int32)) / (3 : Int32)) * (3 : Int32)) = (0 : Int32)) (hpm : (p1 &&& (3 : Int32)) = (3 : Int32)) (sCS : SCS Z cs) (O0 : Old Z n0 h0) (S_DEFAULTCAPACITY_EMPTY_ELEMENTDATA : Sa0 Z (.ref st_DC)) (S_NO : Sa2 Z (.ref st_NO)) (M_java_util_ArrayList : OMir Z "java/util/ArrayList" m_AL) (M_java_util_Collections_UnmodifiableList : OMir Z "java/util/Collections$UnmodifiableList" m_UL) (M_java_util_Collections_UnmodifiableRandomAccessList : OMir Z "java/util/Collections$UnmodifiableRandomAccessList" m_UR) (M_java_util_LinkedHashMap : OMir Z "java/util/LinkedHashMap" m_LM) (M_java_util_Collections_UnmodifiableMap : OMir Z "java/util/Collections$UnmodifiableMap" m_UM) (S_EMPTY_LIST : Sa1 Z (.ref st_EL)) (E_st_EL : Ex6 Z h0 st_EL) (F_st_EL_elements : Fd28 Z h0 st_EL (.ref el_EL)) (V_el_EL : Arv Z h0 el_EL k_el_EL (.object "java/lang/Object") (0 : Int32) [] .null) (S_instance : Sa4 Z (.ref st_CD)) (E_st_CD : Ex8 Z h0 st_CD) (S_A : Sa3 Z (.ref st_A)) (V_st_A : Arv Z h0 st_A k_st_A .int 256 tA z0) :
    LawM l Z ws p0 p1 p2 p3 h0 n0 := by
 refine own_bodyH (k := 18) (n := 295) (y := x) (Q := fun v _ L => Q_law n0 v L) (own_EW hw) (plainFor_of_name pn_BeanDefinitionGetScopePinLaw149) (ef_law p0 p1 p2 p3) (by decide) (by decide) ?_
 intro p e s m below meth c s₁ hx hby hml hown hnm hret hZ e0 hS0 hk0 X0 hC0 hSF0
 have N0 := Fr.nil n0
 obtain ⟨T1, h1, k1, X1, e1, E1, A1, st1⟩ := newP (aty := .char) X0 hx hZ (w1 hw) e0 (g := (mkF m 14 #[vi p0, vi p1, vi p2, vi p3, vi 0, vi 3, .unset, .unset, .unset, .unset, .unset, .unset] [(.int 2)])) rfl (hb hby at_14) rfl (by decide) (cap := 2) (by decide) (by decide) (by decide) (by decide)
 obtain ⟨b1, g1⟩ : ∃ z, z = h0.size := ⟨_, rfl⟩
 rw [← g1] at A1 st1
 have ge_b1 : h0.size ≤ b1 := Nat.le_of_eq g1.symm
 have K1 := KL.ofE E1
 have Ck0 := own_chK K1 na0 (CHr.refl hC0).1
 have Ah1 := (CHr.refl hC0).trans Ck0.1
 have V1 : Arv Z h1 b1 k1 .char 2 [z0, z0] z0 := (Arv.new A1 (by decide)).pad (pad_rep [] z0 2)
 obtain ⟨T2, h2, X2, e2, W2, V2, st2⟩ := own_astC X1 hx hZ e1 V1 (j := 0) (by decide) 0 rfl (Nat.le_of_ble_eq_true rfl) (g := (mkF m 32 #[vi p0, vi p1, vi p2, vi p3, vi 0, vi 3, vr b1, .unset, .unset, .unset, .unset, .unset] [(.int (own_c0 p2)), z0, (.ref b1)])) rfl rfl (hb hby at_32)
 rw [show (nar .char (own_c0 p2)) = (own_c0 p2) from (own_c2c (own_c0a p2) (own_c0b p2))] at V2
 have gg3 := Nat.le_trans Z0 ge_b1
 have K2 := KL.ofW W2
 have Ck1 := own_chK K2 (naF (Ck0.2 _ (Safe.new ge_b1)) na0) Ah1.1
 have Ah2 := Ah1.trans Ck1.1
 replace V2 : Arv Z h2 b1 k1 .char 2 [(.int (own_c0 p2)), z0] z0 := V2
 have N2 := Fr.snoc X2 N0 gg3
 obtain ⟨T4, h4, X4, e4, W4, V4, st4⟩ := own_astC X2 hx hZ e2 V2 (j := 1) (by decide) 1 rfl (Nat.le_of_ble_eq_true rfl) (g := (mkF m 42 #[vi p0, vi p1, vi p2, vi p3, vi 0, vi 3, vr b1, .unset, .unset, .unset, .unset, .unset] [(.int (p3 &&& (255 : Int32))), (.int 1), (.ref b1)])) rfl rfl (hb hby at_42)
 rw [show (nar .char (p3 &&& (255 : Int32))) = (p3 &&& (255 : Int32)) from (i2c_mask _)] at V4
 have K4 := KL.ofW W4
 have sf5 := (Ck1.2 _ (Ck0.2 _ (Safe.new ge_b1)))
 have Ck2 := own_chK K4 (naF sf5 na0) Ah2.1
 have Ah3 := Ah2.trans Ck2.1
 replace V4 : Arv Z h4 b1 k1 .char 2 [(.int (own_c0 p2)), (.int (p3 &&& (255 : Int32)))] z0 := V4
 have N4 := Fr.snoc X4 N2 gg3
 obtain ⟨T6, h6, X6, e6, E6, A6, D6, -, st6⟩ := newO X4 hx hZ hown (w2 hw) (w3 hw) (w4 hw) e4 (g := (mkF m 43 #[vi p0, vi p1, vi p2, vi p3, vi 0, vi 3, vr b1, .unset, .unset, .unset, .unset, .unset] [])) rfl (hb hby at_43) (by decide) (by decide)
 obtain ⟨b6, g6⟩ : ∃ z, z = h4.size := ⟨_, rfl⟩
 rw [← g6] at A6 D6 st6
 have ge_b6 : h4.size ≤ b6 := Nat.le_of_eq g6.symm
 have K6 := KL.ofE E6
 have Ck3 := own_chK K6 na0 Ah3.1
 have Ah4 := Ah3.trans Ck3.1
 have F_b6_coder : Fd3 Z h6 b6 z0 := D6 (Or.inr (w28 hw)) (ty := .byte) (by decide)
 have F_b6_value : Fd4 Z h6 b6 .null := D6 (Or.inr (w30 hw)) (ty := (.array .byte)) (by decide)
 have f8 := (kArv K6 V4 na0)
 have f9 := (kOld K6 (kOld K4 (kOld K2 (kOld K1 O0 na0) (naG gg3 na0)) (naG gg3 na0)) na0)
 have sz_0_2 := (Nat.le_trans K1.1 K2.1)
 have sz_0_3 := (Nat.le_trans sz_0_2 K4.1)
 have gg10 := Nat.le_trans Z0 (Nat.le_trans sz_0_3 ge_b6)
 have sz_0_4 := (Nat.le_trans sz_0_3 K6.1)
 obtain ⟨_, T7, L7, X7, hQ7, st7⟩ := own_init X6 hx hZ rfl hown (w5 hw) (w6 hw) (w4 hw) (w7 hw) (by decide) (r7__init_ l Z a0 hw [] b6 b1 (own_c0 p2) (p3 &&& (255 : Int32)) k1 cs h6 n0 (Nat.le_trans Z0 sz_0_4) f8 sCS F_b6_coder A6 F_b6_value f9 hcs (own_c0b p2) (own_m255b _) gg10) e6 (W := 1) (by decide) (g := (mkF m 49 #[vi p0, vi p1, vi p2, vi p3, vi 0, vi 3, vr b1, .unset, .unset, .unset, .unset, .unset] [(.ref b1), (.ref b6), (.ref b6)])) rfl hml.symm (argsL := [(.ref b1)]) (rest := [(.ref b6)]) (lenOf pd_8 rfl) rfl rfl (own_wr rfl rfl) (hb hby at_49)
 obtain ⟨b1_6_4_7, k1_6_4_7, rfl, N7q, K7, Q7_0, Q7_1, Q7_2, Q7_3⟩ := hQ7
 have N7 := Fr.app N4 N7q
 have Ck4 := own_chK K7 (naF (Ck3.2 _ (Safe.new ge_b6)) (naF (Ck3.2 _ (Safe.new ge_b6)) na0)) Ah4.1
 have Ah5 := Ah4.trans Ck4.1
 obtain ⟨T12, h12, X12, e12, E12, A12, D12, -, st12⟩ := newO X7 hx hZ hown (w31 hw) (w32 hw) (w33 hw) rfl (g := (mkF m 54 #[vi p0, vi p1, vi p2, vi p3, vi 0, vi 3, vr b1, vr b6, .unset, .unset, .unset, .unset] [])) rfl (hb hby at_54) (by decide) (by decide)
 obtain ⟨b12, g12⟩ : ∃ z, z = T7.heap.size := ⟨_, rfl⟩
 rw [← g12] at A12 D12 st12
 have ge_b12 : T7.heap.size ≤ b12 := Nat.le_of_eq g12.symm
 have K12 := KL.ofE E12
 have Ck5 := own_chK K12 na0 Ah5.1
 have Ah6 := Ah5.trans Ck5.1
 have F_b12_singleton : Fd5 Z h12 b12 z0 := D12 (Or.inl (w39 hw)) (ty := .boolean) (by decide)
 have F_b12_initMethodRequired : Fd6 Z h12 b12 z0 := D12 (Or.inl (w41 hw)) (ty := .boolean) (by decide)
 have F_b12_destroyMethodRequired : Fd7 Z h12 b12 z0 := D12 (Or.inl (w43 hw)) (ty := .boolean) (by decide)
 have F_b12_dependsOn : Fd8 Z h12 b12 .null := D12 (Or.inr (w69 hw)) (ty := (.object "java/util/List")) (by decide)
 have F_b12_autowireCandidate : Fd9 Z h12 b12 z0 := D12 (Or.inl (w71 hw)) (ty := .boolean) (by decide)
 have F_b12_autowireMode : Fd10 Z h12 b12 .null := D12 (Or.inl (w76 hw)) (ty := (.object "com/example/graft_container/graftcontainer/BeanDefinition$Autowire")) (by decide)
 have F_b12_qualifiers : Fd11 Z h12 b12 .null := D12 (Or.inr (w104 hw)) (ty := (.object "java/util/Map")) (by decide)
 have F_b12_propertyValues : Fd12 Z h12 b12 .null := D12 (Or.inr (w106 hw)) (ty := (.object "java/util/List")) (by decide)
 have F_b12_constructorArguments : Fd13 Z h12 b12 .null := D12 (Or.inr (w108 hw)) (ty := (.object "java/util/List")) (by decide)
 have F_b12_dependsOnView : Fd14 Z h12 b12 .null := D12 (Or.inr (w153 hw)) (ty := (.object "java/util/List")) (by decide)
 have F_b12_qualifiersView : Fd15 Z h12 b12 .null := D12 (Or.inr (w174 hw)) (ty := (.object "java/util/Map")) (by decide)
 have F_b12_propertyValuesView : Fd16 Z h12 b12 .null := D12 (Or.inr (w176 hw)) (ty := (.object "java/util/List")) (by decide)
 have F_b12_constructorArgumentsView : Fd17 Z h12 b12 .null := D12 (Or.inr (w178 hw)) (ty := (.object "java/util/List")) (by decide)
 have F_b12_changeListeners : Fd18 Z h12 b12 .null := D12 (Or.inl (w186 hw)) (ty := (.object "java/util/List")) (by decide)
 have F_b12_outers : Fd19 Z h12 b12 .null := D12 (Or.inl (w188 hw)) (ty := (.object "java/util/List")) (by decide)
 have F_b12_frozen : Fd20 Z h12 b12 z0 := D12 (Or.inl (w203 hw)) (ty := .boolean) (by decide)
 have F_b12_parentName : Fd21 Z h12 b12 .null := D12 (Or.inl (w310 hw)) (ty := (.object "java/lang/String")) (by decide)
 have F_b12_scope : Fd22 Z h12 b12 .null := D12 (Or.inl (w322 hw)) (ty := (.object "java/lang/String")) (by decide)
 have sz_0_5 := (Nat.le_trans sz_0_4 K7.1)
 have gg14 := Nat.le_trans Z0 (Nat.le_trans sz_0_5 ge_b12)
 have f15 := (kOld K12 (kOld K7 f9 (naG gg10 (naG gg10 na0))) na0)
 have sz_0_6 := (Nat.le_trans sz_0_5 K12.1)
 obtain ⟨_, T13, L13, X13, hQ13, st13⟩ := own_init X12 hx hZ rfl hown (w34 hw) (w35 hw) (w33 hw) (w36 hw) (by decide) (r12__init_ l Z a0 hw [] b12 st_DC st_NO m_AL m_UL m_UR m_LM m_UM st_EL h12 n0 (Nat.le_trans Z0 sz_0_6) F_b12_singleton A12 gg14 F_b12_initMethodRequired F_b12_destroyMethodRequired S_DEFAULTCAPACITY_EMPTY_ELEMENTDATA f15 F_b12_dependsOn F_b12_autowireCandidate S_NO F_b12_autowireMode F_b12_qualifiers F_b12_propertyValues F_b12_constructorArguments M_java_util_ArrayList M_java_util_Collections_UnmodifiableList M_java_util_Collections_UnmodifiableRandomAccessList F_b12_dependsOnView M_java_util_LinkedHashMap M_java_util_Collections_UnmodifiableMap F_b12_qualifiersView F_b12_propertyValuesView F_b12_constructorArgumentsView S_EMPTY_LIST F_b12_changeListeners F_b12_outers) e12 (W := 1) (by decide) (g := (mkF m 58 #[vi p0, vi p1, vi p2, vi p3, vi 0, vi 3, vr b1, vr b6, .unset, .unset, .unset, .unset] [(.ref b12), (.ref b12)])) rfl hml.symm (argsL := []) (rest := [(.ref b12)]) (lenOf pd_9 rfl) rfl rfl (own_wr rfl rfl) (hb hby at_58)
 obtain ⟨b9_13, b27_13, b34_13, b42_13, r_55_13, r_64_13, r_71_13, r_78_13, rfl, N13q, K13, Q13_0, Q13_1, Q13_2, Q13_3, Q13_4, Q13_5, Q13_6, Q13_7, Q13_8, Q13_9, Q13_10, Q13_11, Q13_12, Q13_13, Q13_14, Q13_15, Q13_16, Q13_17, Q13_18, Q13_19, Q13_20, Q13_21, Q13_22⟩ := hQ13
 have N13 := Fr.app N7 N13q
 have Ck6 := own_chK K13 (naFM 15 rfl (Safe.exa hZ.alike A12 (by decide) (by decide)) na0) Ah6.1
 have Ah7 := Ah6.trans Ck6.1
 have f17 := (kExa K13 A12)
 have f18 := (kFld K13 F_b12_frozen (nwf_2 hw b12))
 have f19 := (kExa K13 (kExa K12 (kExa K7 (kExa K6 (kExa K4 (kExa K2 (kExa K1 E_st_EL)))))))
 have lt_st_EL : st_EL < h0.size := Exa.lt E_st_EL
 have ne20 := lt_ne lt_st_EL ge_b1
 have ne21 := lt_ne (Nat.lt_of_lt_of_le lt_st_EL sz_0_3) ge_b6
 have ne22 := lt_ne (Nat.lt_of_lt_of_le lt_st_EL sz_0_5) ge_b12
 have f23 := (kFld K13 (kFld K12 (kFld K7 (kFld K6 (kFld K4 (kFld K2 (kFld K1 F_st_EL_elements nw0) (nwL ne20 nw0)) (nwL ne20 nw0)) nw0) (nwL ne21 (nwL ne21 nw0))) nw0) (nwM 15 rfl ne22 nw0))
 have lt_el_EL : el_EL < h0.size := Arv.lt V_el_EL
 have ne24 := lt_ne lt_el_EL ge_b1
 have ne25 := lt_ne (Nat.lt_of_lt_of_le lt_el_EL sz_0_3) ge_b6
 have ne26 := lt_ne (Nat.lt_of_lt_of_le lt_el_EL sz_0_5) ge_b12
 have f27 := (kArv K13 (kArv K12 (kArv K7 (kArv K6 (kArv K4 (kArv K2 (kArv K1 V_el_EL na0) (naN (Ne.symm ne24) na0)) (naN (Ne.symm ne24) na0)) na0) (naN (Ne.symm ne25) (naN (Ne.symm ne25) na0))) na0) (naNM 15 rfl (Ne.symm ne26) na0))
 have f28 := (kExa K13 (kExa K12 (kExa K7 A6)))
 have lt_b6 : b6 < h6.size := Exa.lt A6
 have ne29 := lt_ne (Nat.lt_of_lt_of_le lt_b6 K7.1) ge_b12
 have f30 := (kFld K13 (kFld K12 Q7_1 nw0) (nwM 15 rfl ne29 nw0))
 have f31 := (kFld K13 (kFld K12 Q7_2 nw0) (nwM 15 rfl ne29 nw0))
 have lt_b1_6_4_7 : b1_6_4_7 < T7.heap.size := Arv.lt Q7_3
 have ne32 := lt_ne lt_b1_6_4_7 ge_b12
 have f33 := (kArv K13 (kArv K12 Q7_3 na0) (naNM 15 rfl (Ne.symm ne32) na0))
 have f34 := (kExa K13 (kExa K12 (kExa K7 (kExa K6 (kExa K4 (kExa K2 (kExa K1 E_st_CD)))))))
 have lt_st_A : st_A < h0.size := Arv.lt V_st_A
 have ne35 := lt_ne lt_st_A ge_b1
 have ne36 := lt_ne (Nat.lt_of_lt_of_le lt_st_A sz_0_3) ge_b6
 have ne37 := lt_ne (Nat.lt_of_lt_of_le lt_st_A sz_0_5) ge_b12
 have f38 := (kArv K13 (kArv K12 (kArv K7 (kArv K6 (kArv K4 (kArv K2 (kArv K1 V_st_A na0) (naN (Ne.symm ne35) na0)) (naN (Ne.symm ne35) na0)) na0) (naN (Ne.symm ne36) (naN (Ne.symm ne36) na0))) na0) (naNM 15 rfl (Ne.symm ne37) na0))
 have f39 := (kOld K13 f15 (naGM 15 rfl gg14 na0))
 have f40 := (kFld K13 F_b12_parentName (nwf_1 hw b12))
 have f41 := (kFld K13 F_b12_scope (nwf_0 hw b12))
 have sz_0_7 := (Nat.le_trans sz_0_6 K13.1)
 obtain ⟨_, T16, L16, X16, hS16, hk16, hZ16, hown16, hQ16, hC16, st16⟩ := own_Hvirtual X13 hx hZ hown (w189 hw) (w190 hw) (nfS hZ (w192 hw)) (w192 hw) (w191 hw) (w33 hw) (w193 hw) (by decide) (r21_setParentName l Z a0 hw [] b12 b6 st_EL el_EL k_el_EL cs b1_6_4_7 ((own_c0 p2).toInt8.toInt32) ((p3 &&& (255 : Int32)).toInt8.toInt32) k1_6_4_7 st_CD st_A tA k_st_A T13.heap n0 (Nat.le_trans Z0 sz_0_7) f17 f18 Q13_22 f19 f23 f27 Q13_21 f28 sCS f30 f31 f33 S_instance f34 S_A f38 f39 hcs (own_nsp p2 (by decide)) (own_nsp p2 (by decide)) (own_nws p2 hA) f40 gg14 f41 Q13_8) rfl f17 (W := 0) (by decide) (g := (mkF m 133 #[vi p0, vi p1, vi p2, vi p3, vi 0, vi 3, vr b1, vr b6, vr b12, .unset, .unset, .unset] [(.ref b6), (.ref b12)])) rfl hml.symm (argsL := [(.ref b6)]) (rest := []) (lenOf pd_25 rfl) rfl rfl (own_wr rfl rfl) (hb hby at_133) hS0 (Nat.le_trans hk0 sz_0_7) (own_EW hw) Ah7.1 sf0
 obtain ⟨rfl, N16q, K16, Q16_0, Q16_1⟩ := hQ16
 have N16 := Fr.app N13 N16q
 have Ah8 := Ah7.trans hC16
 have f43 := (kFld K16 f41 (nwR (sn_264 hw) (nwR (sn_236 hw) nw0)))
 have sz_0_8 := (Nat.le_trans sz_0_7 K16.1)
 have f44 := (kExa K16 f17)
 obtain ⟨_, T42, L42, X42, hQ42, st42⟩ := own_virtual X16 hx hZ16 hown16 (w328 hw) (w317 hw) (nfS hZ16 (w319 hw)) (w319 hw) (w318 hw) (w33 hw) (w320 hw) (by decide) (r40_getScope l Z a0 hw [] b12 b6 T16.heap n0 (Nat.le_trans Z0 sz_0_8) f43 Q16_0) rfl f44 (W := 0) (by decide) (g := (mkF m 157 #[vi p0, vi p1, vi p2, vi p3, vi 0, vi 3, vr b1, vr b6, vr b12, vi 1, .unset, .unset] [(.ref b12)])) rfl hml.symm (argsL := []) (rest := []) (lenOf pd_13 rfl) rfl rfl (own_wr rfl rfl) (hb hby at_157)
 obtain ⟨rfl, N42q, e42⟩ := hQ42
 have N42 := Fr.app N16 N42q
 refine ⟨T42, _, some (.int 1), _, _, X42, hS16, (by rw [e42]; exact hk16), (fun h => by cases h <;> rfl), ?_, (by rw [e42]; exact Ah8), hZ16, fun fs hr => ?_⟩
 · show Q_law n0 _ _
   exact ⟨rfl, N42⟩
 refine t_iloadN 1 X0.here hx hby at_0 rfl rfl ?_
 refine X0.ldcInt hx hown (mvT hZ (w0 hw)) (g := (mkF m 1 #[vi p0, vi p1, vi p2, vi p3, .unset, .unset, .unset, .unset, .unset, .unset, .unset, .unset] [(.int p0)])) rfl (hb hby at_1) _ ?_
 refine t_iand 4 X0.here hx hby at_3 rfl rfl ?_
 refine t_iconst 5 (r := 3) X0.here hx hby at_4 (by decide) rfl ?_
 refine t_irem 6 (r := 0) X0.here hx hby at_5 (by decide) hs rfl ?_
 refine t_istore (pc' := 8) (L' := #[vi p0, vi p1, vi p2, vi p3, vi 0, .unset, .unset, .unset, .unset, .unset, .unset, .unset]) X0.here hx hby at_6 rfl rfl ?_
 refine t_iloadN 9 X0.here hx hby at_8 rfl rfl ?_
 refine t_iconst 10 (r := 3) X0.here hx hby at_9 (by decide) rfl ?_
 refine t_iand 11 (r := 3) X0.here hx hby at_10 hpm rfl ?_
 refine t_istore (pc' := 13) (L' := #[vi p0, vi p1, vi p2, vi p3, vi 0, vi 3, .unset, .unset, .unset, .unset, .unset, .unset]) X0.here hx hby at_11 rfl rfl ?_
 refine t_iconst 14 (r := 2) X0.here hx hby at_13 (by decide) rfl ?_
 refine st1 _ ?_
 refine t_astore (pc' := 18) (L' := #[vi p0, vi p1, vi p2, vi p3, vi 0, vi 3, vr b1, .unset, .unset, .unset, .unset, .unset]) X1.here hx hby at_16 rfl rfl rfl ?_
 refine t_aload 20 X1.here hx hby at_18 rfl rfl rfl ?_
 refine t_iconst 21 (r := 0) X1.here hx hby at_20 (by decide) rfl ?_
 refine t_bipush 23 (r := 33) X1.here hx hby at_21 (by decide) rfl ?_
 refine t_iloadN 24 X1.here hx hby at_23 rfl rfl ?_
 refine X1.ldcInt hx hown (mvT hZ (w0 hw)) (g := (mkF m 24 #[vi p0, vi p1, vi p2, vi p3, vi 0, vi 3, vr b1, .unset, .unset, .unset, .unset, .unset] [(.int p2), (.int 33), z0, (.ref b1)])) rfl (hb hby at_24) _ ?_
 refine t_iand 27 X1.here hx hby at_26 rfl rfl ?_
 refine t_bipush 29 (r := 94) X1.here hx hby at_27 (by decide) rfl ?_
 refine t_irem 30 X1.here hx hby at_29 (by decide) rfl rfl ?_
 refine t_iadd 31 (r := (own_c0 p2)) X1.here hx hby at_30 (Eq.refl (own_c0 p2)) rfl ?_
 refine t_i2c 32 (r := (own_c0 p2)) X1.here hx hby at_31 (own_c2c (own_c0a p2) (own_c0b p2)) rfl ?_
 refine st2 _ ?_
 refine t_aload 35 X2.here hx hby at_33 rfl rfl rfl ?_
 refine t_iconst 36 (r := 1) X2.here hx hby at_35 (by decide) rfl ?_
 refine t_iloadN 37 X2.here hx hby at_36 rfl rfl ?_
 refine t_sipush 40 (r := 255) X2.here hx hby at_37 (by decide) rfl ?_
 refine t_iand 41 X2.here hx hby at_40 rfl rfl ?_
 refine t_i2c 42 (r := (p3 &&& (255 : Int32))) X2.here hx hby at_41 (i2c_mask _) rfl ?_
 refine st4 _ ?_
 refine st6 _ ?_
 refine t_dup 47 X6.here hx hby at_46 rfl rfl ?_
 refine t_aload 49 X6.here hx hby at_47 rfl rfl rfl ?_
 refine st7 _ ?_
 refine t_astore (pc' := 54) (L' := #[vi p0, vi p1, vi p2, vi p3, vi 0, vi 3, vr b1, vr b6, .unset, .unset, .unset, .unset]) X7.here hx hby at_52 rfl rfl rfl ?_
 refine st12 _ ?_
 refine t_dup 58 X12.here hx hby at_57 rfl rfl ?_
 refine st13 _ ?_
 refine t_astore (pc' := 63) (L' := #[vi p0, vi p1, vi p2, vi p3, vi 0, vi 3, vr b1, vr b6, vr b12, .unset, .unset, .unset]) X13.here hx hby at_61 rfl rfl rfl ?_
 refine t_iload 65 X13.here hx hby at_63 rfl rfl ?_
 refine t_iconst 66 (r := 1) X13.here hx hby at_65 (by decide) rfl ?_
 refine t_icmpNo 69 X13.here hx hby at_66 (by decide) rfl ?_
 refine t_iload 71 X13.here hx hby at_69 rfl rfl ?_
 refine t_iconst 72 (r := 2) X13.here hx hby at_71 (by decide) rfl ?_
 refine t_icmpYes (pc := 72) 82 X13.here hx hby at_72 (by decide) (by decide) (by decide) ?_
 refine t_iload 84 X13.here hx hby at_82 rfl rfl ?_
 refine t_iconst 85 (r := 2) X13.here hx hby at_84 (by decide) rfl ?_
 refine t_icmpYes (pc := 85) 94 X13.here hx hby at_85 (by decide) (by decide) (by decide) ?_
 refine t_iload 96 X13.here hx hby at_94 rfl rfl ?_
 refine t_iconst 97 (r := 1) X13.here hx hby at_96 (by decide) rfl ?_
 refine t_icmpYes (pc := 97) 110 X13.here hx hby at_97 (by decide) (by decide) (by decide) ?_
 refine t_iload 112 X13.here hx hby at_110 rfl rfl ?_
 refine t_iconst 113 (r := 2) X13.here hx hby at_112 (by decide) rfl ?_
 refine t_icmpYes (pc := 113) 123 X13.here hx hby at_113 (by decide) (by decide) (by decide) ?_
 refine t_iload 125 X13.here hx hby at_123 rfl rfl ?_
 refine t_iconst 126 (r := 3) X13.here hx hby at_125 (by decide) rfl ?_
 refine t_icmpNo 129 X13.here hx hby at_126 (by decide) rfl ?_
 refine t_aload 131 X13.here hx hby at_129 rfl rfl rfl ?_
 refine t_aload 133 X13.here hx hby at_131 rfl rfl rfl ?_
 refine st16 _ ?_
 refine t_iload 138 X16.here hx hby at_136 rfl rfl ?_
 refine t_iconst 139 (r := 1) X16.here hx hby at_138 (by decide) rfl ?_
 refine t_icmpNo 142 X16.here hx hby at_139 (by decide) rfl ?_
 refine t_iload 144 X16.here hx hby at_142 rfl rfl ?_
 refine t_iconst 145 (r := 3) X16.here hx hby at_144 (by decide) rfl ?_
 refine t_icmpNo 148 X16.here hx hby at_145 (by decide) rfl ?_
 refine t_iconst 149 (r := 1) X16.here hx hby at_148 (by decide) rfl ?_
 refine t_goto (pc := 149) 153 X16.here hx hby at_149 (by decide) (by decide) ?_
 refine t_istore (pc' := 155) (L' := #[vi p0, vi p1, vi p2, vi p3, vi 0, vi 3, vr b1, vr b6, vr b12, vi 1, .unset, .unset]) X16.here hx hby at_153 rfl rfl ?_
 refine t_aload 157 X16.here hx hby at_155 rfl rfl rfl ?_
 refine st42 _ ?_
 refine t_astore (pc' := 162) (L' := #[vi p0, vi p1, vi p2, vi p3, vi 0, vi 3, vr b1, vr b6, vr b12, vi 1, .val .null, .unset]) X42.here hx hby at_160 rfl rfl rfl ?_
 refine t_iload 164 X42.here hx hby at_162 rfl rfl ?_
 refine t_iconst 165 (r := 1) X42.here hx hby at_164 (by decide) rfl ?_
 refine t_icmpYes (pc := 165) 175 X42.here hx hby at_165 (by decide) (by decide) (by decide) ?_
 refine t_iload 177 X42.here hx hby at_175 rfl rfl ?_
 refine t_iconst 178 (r := 2) X42.here hx hby at_177 (by decide) rfl ?_
 refine t_icmpYes (pc := 178) 188 X42.here hx hby at_178 (by decide) (by decide) (by decide) ?_
 refine t_iload 190 X42.here hx hby at_188 rfl rfl ?_
 refine t_ifNo 193 X42.here hx hby at_190 (by decide) rfl ?_
 refine t_aconst_null 194 X42.here hx hby at_193 rfl ?_
 refine t_astore (pc' := 196) (L' := #[vi p0, vi p1, vi p2, vi p3, vi 0, vi 3, vr b1, vr b6, vr b12, vi 1, .val .null, .val .null]) X42.here hx hby at_194 rfl rfl rfl ?_
 refine t_goto (pc := 196) 203 X42.here hx hby at_196 (by decide) (by decide) ?_
 refine t_aload 205 X42.here hx hby at_203 rfl rfl rfl ?_
 refine t_ifnonnullNo 208 X42.here hx hby at_205 rfl ?_
 refine t_aload 210 X42.here hx hby at_208 rfl rfl rfl ?_
 refine t_ifnonnullNo 213 X42.here hx hby at_210 rfl ?_
 refine t_iconst 214 (r := 1) X42.here hx hby at_213 (by decide) rfl ?_
 refine t_goto (pc := 214) 218 X42.here hx hby at_214 (by decide) (by decide) ?_
 exact retN X42 hx (t := .boolean) hret (by simp) (hb hby at_218) hr
def w330 (hw : HW Z a0) := ow 330 hw rfl
def w333 (hw : HW Z a0) := ow 333 hw rfl
abbrev b41_ := prog_7_method_16_code
theorem d471 : decode b41_ 0 = .ok (.aload_n 0, 1) := by decide +kernel
theorem d472 : decode b41_ 1 = .ok (.invokevirtual 93, 3) := by decide +kernel
theorem d473 : decode b41_ 4 = .ok (.ldc 149, 2) := by decide +kernel
theorem d474 : decode b41_ 6 = .ok (.aload_n 1, 1) := by decide +kernel
theorem d475 : decode b41_ 7 = .ok (.invokevirtual 150, 3) := by decide +kernel
theorem d476 : decode b41_ 10 = .ok (.ifCond .ne 26, 3) := by decide +kernel
theorem d477 : decode b41_ 36 = .ok (.aload_n 0, 1) := by decide +kernel
theorem d478 : decode b41_ 37 = .ok (.ldc 149, 2) := by decide +kernel
theorem d479 : decode b41_ 39 = .ok (.aload_n 1, 1) := by decide +kernel
theorem d480 : decode b41_ 40 = .ok (.invokevirtual 150, 3) := by decide +kernel
theorem d481 : decode b41_ 43 = .ok (.ifCond .eq 8, 3) := by decide +kernel
theorem d482 : decode b41_ 46 = .ok (.ldc 149, 2) := by decide +kernel
theorem d483 : decode b41_ 48 = .ok (.goto 5, 3) := by decide +kernel
theorem d484 : decode b41_ 53 = .ok (.putfield 146, 3) := by decide +kernel
theorem d485 : decode b41_ 56 = .ok (.aload_n 0, 1) := by decide +kernel
theorem d486 : decode b41_ 57 = .ok (.aload_n 0, 1) := by decide +kernel
theorem d487 : decode b41_ 58 = .ok (.invokevirtual 115, 3) := by decide +kernel
theorem d488 : decode b21_ 7 = .ok (.aload_n 0, 1) := by decide +kernel
theorem d489 : decode b21_ 8 = .ok (.getfield 146, 3) := by decide +kernel
theorem d490 : decode b21_ 11 = .ok (.astore_n 1, 1) := by decide +kernel
theorem d491 : decode b21_ 12 = .ok (.goto 18, 3) := by decide +kernel
def Q_r47_getScope (Z : State) (o0 o_1 : Addr) (h0 : Heap) (n0 : Nat) (v : Option Value) (h : Heap) (L : List Loc) : Prop := v = some (.ref o_1) ∧ Fr n0 L ∧ h = h0
theorem r47_getScope (l : Launch) (Z : State) (a0 : Array Value) (hw : HW Z a0) (ws : List Jvm.Cond) (o0 o_1 : Addr) (h0 : Heap) (n0 : Nat) (Z0 : n0 ≤ h0.size) (F_o0_scope : Fd22 Z h0 o0 (.ref o_1)) :
    MF l Z y21_getScope b21_ 2 (some (.object "java/lang/String")) ws ⟨0, 0, 0, 0⟩ #[(.ref o0)] h0 (Q_r47_getScope Z o0 o_1 h0 n0) := by
 refine own_body (plainFor_of_name pn_BeanDefinition762) (ef_8 o0) (by decide) (by decide) ?_
 intro p e s m below meth c s₁ hx hby hml hown hnm hret hZ hh e0 X0
 have N0 := Fr.nil n0
 obtain ⟨T2, X2, e2, st2⟩ := getF X0 hx hZ hown (host := "") (Or.inl (w321 hw)) Via.refl e0 F_o0_scope (g := (mkF m 1 #[vr o0, .unset] [(.ref o0)])) rfl rfl (hb hby d280)
 obtain ⟨T3, X3, e3, st3⟩ := getF X2 hx hZ hown (host := "") (Or.inl (w321 hw)) Via.refl e2 F_o0_scope (g := (mkF m 8 #[vr o0, .unset] [(.ref o0)])) rfl rfl (hb hby d489)
 refine ⟨T3, _, some (.ref o_1), X3, (fun h => by cases h <;> rfl), ?_, fun fs hr => ?_⟩
 · show Q_r47_getScope Z o0 o_1 h0 n0 _ T3.heap _
   rw [e3]
   exact ⟨rfl, N0, rfl⟩
 refine t_aloadN 1 X0.here hx hby d279 rfl rfl rfl ?_
 refine st2 _ ?_
 refine t_ifnullNo 7 X2.here hx hby d281 rfl ?_
 refine t_aloadN 8 X2.here hx hby d488 rfl rfl rfl ?_
 refine st3 _ ?_
 refine t_astoreN (pc' := 12) (L' := #[vr o0, vr o_1]) X3.here hx hby d490 rfl rfl rfl ?_
 refine t_goto (pc := 12) 30 X3.here hx hby d491 (by decide) (by decide) ?_
 refine t_aloadN 31 X3.here hx hby d288 rfl rfl rfl ?_
 jvm_step X3.here [X3.here.top, hx, (hb hby d289), X3.method', hret, Value.isRef, FieldType.isReference]
 first | (intro acts; rw [hr _ acts rfl rfl rfl]) | rw [hr _ _ rfl rfl rfl]
 exact Steps.refl _
def Q_r46_singletonScope (Z : State) (o0 o_2 : Addr) (i_6 : Int32) (o_7 : Addr) (k_o_7 : ClassId) (h0 : Heap) (n0 : Nat) (v : Option Value) (h : Heap) (L : List Loc) : Prop := v = some (.int 1) ∧ Fr n0 L ∧ KL h0 h []
theorem r46_singletonScope (l : Launch) (Z : State) (a0 : Array Value) (hw : HW Z a0) (ws : List Jvm.Cond) (o0 o_2 : Addr) (i_6 : Int32) (o_7 : Addr) (k_o_7 : ClassId) (h0 : Heap) (n0 : Nat) (Z0 : n0 ≤ h0.size) (E_o0 : Ex5 Z h0 o0) (F_o0_scope : Fd22 Z h0 o0 (.ref o_2)) (E_o_2 : Ex4 Z h0 o_2) (sCS : SCS Z i_6) (F_o_2_coder : Fd3 Z h0 o_2 z0) (F_o_2_value : Fd4 Z h0 o_2 (.ref o_7)) (V_o_7 : Arv Z h0 o_7 k_o_7 .byte 9 [(.int 115), (.int 105), (.int 110), (.int 103), (.int 108), (.int 101), (.int 116), (.int 111), (.int 110)] z0) (hp0 : ¬ (i_6 = (0 : Int32))) (O0 : Old Z n0 h0) :
    OMH l Z consts_1 [] y39_singletonScope b40_ 1 (some .boolean) ws ⟨3, 2, 40, 54⟩ #[(.ref o0)] h0 (Q_r46_singletonScope Z o0 o_2 i_6 o_7 k_o_7 h0 n0) := by
 refine own_bodyH (k := 2) (n := 40) (own_EW hw) (plainFor_of_name pn_BeanDefinition762) (ef_1 o0) (by decide) (by decide) ?_
 intro p e s m below meth c s₁ hx hby hml hown hnm hret hZ e0 hS0 hk0 X0 hC0 hSF0
 have N0 := Fr.nil n0
 obtain ⟨c1, T1, h1, k1, b1, kb1, X1, e1, E1, hS1, hk1, hZ1, hown1, Ex1, Fc1, Fv1, Ar1, lta1, ltb1, hC1, Lt1, hne1, st1⟩ := ldcCH X0 hx hZ hown (w315 hw) (own_wS hw) e0 hS0 hk0 (own_EW hw) (by decide) (CHr.refl hC0).1 (vs := [(.int 115), (.int 105), (.int 110), (.int 103), (.int 108), (.int 101), (.int 116), (.int 111), (.int 110)]) (z := 9) ⟨by decide, rfl⟩ (by decide) rfl (g := (mkF m 0 #[vr o0] [])) rfl (hb hby d461) (n := 36) (by decide) (by decide) (by decide) (by decide)
 have K1 := KL.ofE E1
 have Ah1 := (CHr.refl hC0).trans hC1
 have f4 := (kFld K1 F_o0_scope nw0)
 have f5 := (kExa K1 E_o0)
 obtain ⟨_, T3, L3, X3, hQ3, st3⟩ := own_virtual X1 hx hZ1 hown1 (w316 hw) (w317 hw) (nfS hZ1 (w319 hw)) (w319 hw) (w318 hw) (w33 hw) (w320 hw) (by decide) (r47_getScope l Z a0 hw [] o0 o_2 h1 n0 (Nat.le_trans Z0 K1.1) f4) e1 f5 (W := 1) (by decide) (g := (mkF m 3 #[vr o0] [(.ref o0), (.ref c1)])) rfl hml.symm (argsL := []) (rest := [(.ref c1)]) (lenOf pd_13 rfl) rfl rfl (own_wr rfl rfl) (hb hby d463)
 obtain ⟨rfl, N3q, e3⟩ := hQ3
 have N3 := Fr.app N0 N3q
 have f9 := (kExa K1 E_o_2)
 have f10 := (kOld K1 O0 na0)
 have f11 := (kFld K1 F_o_2_coder nw0)
 have f12 := (kFld K1 F_o_2_value nw0)
 have f13 := (kArv K1 V_o_7 na0)
 obtain ⟨_, T8, L8, X8, hQ8, st8⟩ := own_virtual X3 hx hZ1 hown1 (w323 hw) (w324 hw) (nfS hZ1 (w326 hw)) (w326 hw) (w325 hw) (w4 hw) (w327 hw) (by decide) (r_eqs l Z a0 hw [] c1 o_2 b1 o_7 i_6 kb1 k_o_7 h1 n0 (Nat.le_trans Z0 K1.1) hp0 f9 sCS f10 Fc1 f11 Fv1 f12 Ar1 f13) e3 Ex1 (W := 0) (by decide) (g := (mkF m 6 #[vr o0] [(.ref o_2), (.ref c1)])) rfl hml.symm (argsL := [(.ref o_2)]) (rest := []) (lenOf pd_14 rfl) rfl rfl (own_wr rfl rfl) (hb hby d466)
 obtain ⟨rfl, N8q, e8⟩ := hQ8
 have N8 := Fr.app N3 N8q
 have C0 := (KL.refl h0 []).trans K1 na0
 refine ⟨T8, _, some (.int 1), _, _, X8, hS1, (by rw [e8]; exact hk1), (fun h => by cases h <;> rfl), ?_, (by rw [e8]; exact Ah1), hZ1, fun fs hr => ?_⟩
 · show Q_r46_singletonScope Z o0 o_2 i_6 o_7 k_o_7 h0 n0 _ T8.heap _
   rw [e8]
   exact ⟨rfl, N8, C0⟩
 refine st1 _ ?_
 refine t_aloadN 3 X1.here hx hby d462 rfl rfl rfl ?_
 refine st3 _ ?_
 refine st8 _ ?_
 exact retN X8 hx (t := .boolean) hret (by simp) (hb hby d468) hr
theorem d492 : decode b41_ 61 = .ok (.putfield 7, 3) := by decide +kernel
theorem sn_284 (hw : HW Z a0) : sl5 Z ≠ sl22 Z := slot_ne (a0 := a0) (Or.inl (w39 hw)) (Or.inl (w322 hw)) (by decide) (t := .boolean) (t' := ft6_) (by decide) (by decide)
theorem d493 : decode b41_ 64 = .ok (.return_, 1) := by decide +kernel
abbrev y41_setScope : MethodName := ⟨"com/example/graft_container/graftcontainer/BeanDefinition", "setScope", "(Ljava/lang/String;)V"⟩
def WS_r45_setScope (Z : State) (o0 : Addr) : List (Addr × Nat) := [(o0, (sl22 Z)), (o0, (sl5 Z))]
def Q_r45_setScope (Z : State) (o0 o1 o_1 o_2 : Addr) (k_o_2 : ClassId) (i_5 : Int32) (o_6 : Addr) (k_o_6 : ClassId) (h0 : Heap) (n0 : Nat) (v : Option Value) (h : Heap) (L : List Loc) : Prop := ∃ c20 : Addr, ∃ b20 : Addr, ∃ kb20 : ClassId, v = none ∧ Fr n0 L ∧ KL h0 h (WS_r45_setScope Z o0) ∧ c20 < h.size ∧ b20 < h.size ∧ Fd22 Z h o0 (.ref c20) ∧ Fd5 Z h o0 (.int 1) ∧ Ex4 Z h c20 ∧ Fd3 Z h c20 z0 ∧ Fd4 Z h c20 (.ref b20) ∧ Arv Z h b20 kb20 .byte 9 [(.int 115), (.int 105), (.int 110), (.int 103), (.int 108), (.int 101), (.int 116), (.int 111), (.int 110)] z0
theorem r45_setScope (l : Launch) (Z : State) (a0 : Array Value) (hw : HW Z a0) (ws : List Jvm.Cond) (o0 o1 o_1 o_2 : Addr) (k_o_2 : ClassId) (i_5 : Int32) (o_6 : Addr) (k_o_6 : ClassId) (h0 : Heap) (n0 : Nat) (Z0 : n0 ≤ h0.size) (E_o0 : Ex5 Z h0 o0) (F_o0_frozen : Fd20 Z h0 o0 z0) (F_o0_outers : Fd19 Z h0 o0 (.ref o_1)) (E_o_1 : Ex6 Z h0 o_1) (F_o_1_elements : Fd28 Z h0 o_1 (.ref o_2)) (V_o_2 : Arv Z h0 o_2 k_o_2 (.object "java/lang/Object") (0 : Int32) [] .null) (F_o0_changeListeners : Fd18 Z h0 o0 (.ref o_1)) (E_o1 : Ex4 Z h0 o1) (sCS : SCS Z i_5) (F_o1_coder : Fd3 Z h0 o1 z0) (F_o1_value : Fd4 Z h0 o1 (.ref o_6)) (V_o_6 : Arv Z h0 o_6 k_o_6 .byte 9 [(.int 115), (.int 105), (.int 110), (.int 103), (.int 108), (.int 101), (.int 116), (.int 111), (.int 110)] z0) (hp0 : ¬ (i_5 = (0 : Int32))) (O0 : Old Z n0 h0) (F_o0_scope : Fd22 Z h0 o0 .null) (g_o0 : n0 ≤ o0) (F_o0_singleton : Fd5 Z h0 o0 (.int 1)) :
    OMH l Z consts_1 [] y41_setScope b41_ 2 none ws ⟨5, 10, 168, 67⟩ #[(.ref o0), (.ref o1)] h0 (Q_r45_setScope Z o0 o1 o_1 o_2 k_o_2 i_5 o_6 k_o_6 h0 n0) := by
 refine own_bodyH (k := 10) (n := 168) (own_EW hw) (plainFor_of_name pn_BeanDefinition762) (ef_0 o0 o1) (by decide) (by decide) ?_
 intro p e s m below meth c s₁ hx hby hml hown hnm hret hZ e0 hS0 hk0 X0 hC0 hSF0
 have N0 := Fr.nil n0
 obtain ⟨_, T3, L3, X3, hQ3, st3⟩ := own_private X0 hx hZ hown (w194 hw) (w195 hw) (w192 hw) rfl (w196 hw) (w33 hw) (w197 hw) (by decide) (r22_beginChange l Z a0 hw [] o0 o_1 o_2 k_o_2 h0 n0 Z0 E_o0 F_o0_frozen F_o0_outers E_o_1 F_o_1_elements V_o_2 F_o0_changeListeners) e0 E_o0 (W := 0) (by decide) (g := (mkF m 1 #[vr o0, vr o1] [(.ref o0)])) rfl hml.symm (argsL := []) (rest := []) (lenOf pd_9 rfl) rfl rfl (own_wr rfl rfl) (hb hby d472)
 obtain ⟨rfl, N3q, K3⟩ := hQ3
 have N3 := Fr.app N0 N3q
 have Ck0 := own_chK K3 na0 (CHr.refl hC0).1
 have Ah1 := (CHr.refl hC0).trans Ck0.1
 obtain ⟨c4, T4, h4, k4, b4, kb4, X4, e4, E4, hS4, hk4, hZ4, hown4, Ex4, Fc4, Fv4, Ar4, lta4, ltb4, hC4, Lt4, hne4, st4⟩ := ldcCH X3 hx hZ hown (w315 hw) (own_wS hw) rfl hS0 (Nat.le_trans hk0 K3.1) (own_EW hw) (by decide) Ah1.1 (vs := [(.int 115), (.int 105), (.int 110), (.int 103), (.int 108), (.int 101), (.int 116), (.int 111), (.int 110)]) (z := 9) ⟨by decide, rfl⟩ (by decide) rfl (g := (mkF m 4 #[vr o0, vr o1] [])) rfl (hb hby d473) (n := 36) (by decide) (by decide) (by decide) (by decide)
 have K4 := KL.ofE E4
 have Ah2 := Ah1.trans hC4
 have f8 := (kExa K4 (kExa K3 E_o1))
 have f9 := (kOld K4 (kOld K3 O0 na0) na0)
 have f10 := (kFld K4 (kFld K3 F_o1_coder nw0) nw0)
 have f11 := (kFld K4 (kFld K3 F_o1_value nw0) nw0)
 have f12 := (kArv K4 (kArv K3 V_o_6 na0) na0)
 have sz_0_2 := (Nat.le_trans K3.1 K4.1)
 obtain ⟨_, T7, L7, X7, hQ7, st7⟩ := own_virtual X4 hx hZ4 hown4 (w323 hw) (w324 hw) (nfS hZ4 (w326 hw)) (w326 hw) (w325 hw) (w4 hw) (w327 hw) (by decide) (r_eqs l Z a0 hw [] c4 o1 b4 o_6 i_5 kb4 k_o_6 h4 n0 (Nat.le_trans Z0 sz_0_2) hp0 f8 sCS f9 Fc4 f10 Fv4 f11 Ar4 f12) e4 Ex4 (W := 0) (by decide) (g := (mkF m 7 #[vr o0, vr o1] [(.ref o1), (.ref c4)])) rfl hml.symm (argsL := [(.ref o1)]) (rest := []) (lenOf pd_14 rfl) rfl rfl (own_wr rfl rfl) (hb hby d475)
 obtain ⟨rfl, N7q, e7⟩ := hQ7
 have N7 := Fr.app N3 N7q
 obtain ⟨c13, T13, h13, k13, b13, kb13, X13, e13, E13, hS13, hk13, hZ13, hown13, Ex13, Fc13, Fv13, Ar13, lta13, ltb13, hC13, Lt13, hne13, st13⟩ := ldcCH X7 hx hZ4 hown4 (w315 hw) (own_wS hw) e7 hS4 hk4 (own_EW hw) (by decide) Ah2.1 (vs := [(.int 115), (.int 105), (.int 110), (.int 103), (.int 108), (.int 101), (.int 116), (.int 111), (.int 110)]) (z := 9) ⟨by decide, rfl⟩ (by decide) rfl (g := (mkF m 37 #[vr o0, vr o1] [(.ref o0)])) rfl (hb hby d478) (n := 36) (by decide) (by decide) (by decide) (by decide)
 have K13 := KL.ofE E13
 have Ah3 := Ah2.trans hC13
 have f15 := (kExa K13 f8)
 have f16 := (kOld K13 f9 na0)
 have f17 := (kFld K13 f10 nw0)
 have f18 := (kFld K13 f11 nw0)
 have f19 := (kArv K13 f12 na0)
 have sz_0_3 := (Nat.le_trans sz_0_2 K13.1)
 obtain ⟨_, T14, L14, X14, hQ14, st14⟩ := own_virtual X13 hx hZ13 hown13 (w323 hw) (w324 hw) (nfS hZ13 (w326 hw)) (w326 hw) (w325 hw) (w4 hw) (w327 hw) (by decide) (r_eqs l Z a0 hw [] c13 o1 b13 o_6 i_5 kb13 k_o_6 h13 n0 (Nat.le_trans Z0 sz_0_3) hp0 f15 sCS f16 Fc13 f17 Fv13 f18 Ar13 f19) e13 Ex13 (W := 1) (by decide) (g := (mkF m 40 #[vr o0, vr o1] [(.ref o1), (.ref c13), (.ref o0)])) rfl hml.symm (argsL := [(.ref o1)]) (rest := [(.ref o0)]) (lenOf pd_14 rfl) rfl rfl (own_wr rfl rfl) (hb hby d480)
 obtain ⟨rfl, N14q, e14⟩ := hQ14
 have N14 := Fr.app N7 N14q
 obtain ⟨c20, T20, h20, k20, b20, kb20, X20, e20, E20, hS20, hk20, hZ20, hown20, Ex20, Fc20, Fv20, Ar20, lta20, ltb20, hC20, Lt20, hne20, st20⟩ := ldcCH X14 hx hZ13 hown13 (w315 hw) (own_wS hw) e14 hS13 hk13 (own_EW hw) (by decide) Ah3.1 (vs := [(.int 115), (.int 105), (.int 110), (.int 103), (.int 108), (.int 101), (.int 116), (.int 111), (.int 110)]) (z := 9) ⟨by decide, rfl⟩ (by decide) rfl (g := (mkF m 46 #[vr o0, vr o1] [(.ref o0)])) rfl (hb hby d482) (n := 36) (by decide) (by decide) (by decide) (by decide)
 have K20 := KL.ofE E20
 have Ah4 := Ah3.trans hC20
 have f21 := (kFld K20 (kFld K13 (kFld K4 (kFld K3 F_o0_scope nw0) nw0) nw0) nw0)
 have f22 := (kExa K20 (kExa K13 (kExa K4 (kExa K3 E_o0))))
 obtain ⟨T23, h23, X23, e23, W23, st23⟩ := putF X20 hx hZ20 hown20 (host := "") (Or.inl (w321 hw)) Via.refl e20 f21 f22 (Or.inl (w322 hw)) (w32 hw) (ty := (.object "java/lang/String")) (by decide) rfl rfl (g := (mkF m 53 #[vr o0, vr o1] [(.ref c20), (.ref o0)])) rfl rfl (hb hby d484)
 have K23 := KL.ofW W23
 have Ck4 := own_chK K23 (naF (Safe.exa hZ20.alike f22 (by decide) (by decide)) na0) Ah4.1
 have Ah5 := Ah4.trans Ck4.1
 have Fw23 : Fd22 Z h23 o0 (.ref c20) := Fld.same W23 f21
 have N23 := Fr.snoc X23 N14 g_o0
 have f25 := (kExa K23 f22)
 have f26 := (kExa K23 Ex20)
 have lt_o0 : o0 < h0.size := Exa.lt E_o0
 have sf27 := (CHr.safe hC20 (Nat.lt_of_lt_of_le lt_o0 sz_0_3) (CHr.safe hC13 (Nat.lt_of_lt_of_le lt_o0 sz_0_2) (CHr.safe hC4 (Nat.lt_of_lt_of_le lt_o0 K3.1) (Ck0.2 _ (Safe.exa (by first | exact hZ.alike | assumption) E_o0 (by decide) (by decide))))))
 have f28 := (kFld K23 Fc20 (nwL (Ne.symm (hne20 _ sf27).1) nw0))
 have f29 := (kFld K23 Fv20 (nwL (Ne.symm (hne20 _ sf27).1) nw0))
 have f30 := (kArv K23 Ar20 (naN (hne20 _ sf27).2 na0))
 have f31 := (kOld K23 (kOld K20 f16 na0) (naG g_o0 na0))
 have sz_0_4 := (Nat.le_trans sz_0_3 K20.1)
 have sz_0_5 := (Nat.le_trans sz_0_4 K23.1)
 obtain ⟨_, T24, L24, X24, hS24, hk24, hZ24, hown24, hQ24, hC24, st24⟩ := own_Hprivate X23 hx hZ20 hown20 (w311 hw) (w312 hw) (w192 hw) rfl (w313 hw) (w33 hw) (w314 hw) (by decide) (r46_singletonScope l Z a0 hw [] o0 c20 i_5 b20 kb20 h23 n0 (Nat.le_trans Z0 sz_0_5) f25 Fw23 f26 sCS f28 f29 f30 hp0 f31) e23 f25 (W := 1) (by decide) (g := (mkF m 58 #[vr o0, vr o1] [(.ref o0), (.ref o0)])) rfl hml.symm (argsL := []) (rest := [(.ref o0)]) (lenOf pd_16 rfl) rfl rfl (own_wr rfl rfl) (hb hby d487) hS20 (Nat.le_trans hk20 K23.1) (own_EW hw) Ah5.1 sf0
 obtain ⟨rfl, N24q, K24⟩ := hQ24
 have N24 := Fr.app N23 N24q
 have Ah6 := Ah5.trans hC24
 have f32 := (kFld K24 (kFld K23 (kFld K20 (kFld K13 (kFld K4 (kFld K3 F_o0_singleton nw0) nw0) nw0) nw0) (nwR (sn_284 hw) nw0)) nw0)
 have f33 := (kExa K24 f25)
 obtain ⟨T34, h34, X34, e34, W34, st34⟩ := putF X24 hx hZ24 hown24 (host := "") (Or.inl (w38 hw)) Via.refl rfl f32 f33 (Or.inl (w39 hw)) (w32 hw) (ty := .boolean) (by decide) (by decide) (by decide) (g := (mkF m 61 #[vr o0, vr o1] [(.int 1), (.ref o0)])) rfl rfl (hb hby d492)
 have K34 := KL.ofW W34
 have Ck6 := own_chK K34 (naF (Safe.exa hZ24.alike f33 (by decide) (by decide)) na0) Ah6.1
 have Ah7 := Ah6.trans Ck6.1
 have Fw34 : Fd5 Z h34 o0 (.int 1) := Fld.same W34 f32
 have N34 := Fr.snoc X34 N24 g_o0
 have C0 := (KL.refl h0 (WS_r45_setScope Z o0)).trans K3 na0
 have C1 := C0.trans K4 na0
 have C2 := C1.trans K13 na0
 have C3 := C2.trans K20 na0
 have C4 := C3.trans K23 (naO (own_mi 0 rfl) na0)
 have C5 := C4.trans K24 na0
 have C6 := C5.trans K34 (naO (own_mi 1 rfl) na0)
 have sz_4_6 := (Nat.le_trans K23.1 K24.1)
 have sz_4_7 := (Nat.le_trans sz_4_6 K34.1)
 have f35 := (kFld K34 (kFld K24 Fw23 nw0) (nwR (sn_236 hw) nw0))
 have f36 := (kExa K34 (kExa K24 f26))
 have f37 := (kFld K34 (kFld K24 f28 nw0) (nwL (Ne.symm (hne20 _ sf27).1) nw0))
 have f38 := (kFld K34 (kFld K24 f29 nw0) (nwL (Ne.symm (hne20 _ sf27).1) nw0))
 have f39 := (kArv K34 (kArv K24 f30 na0) (naN (hne20 _ sf27).2 na0))
 refine ⟨T34, _, none, _, _, X34, hS24, (by rw [e34]; exact (Nat.le_trans hk24 K34.1)), (fun h => by cases h <;> rfl), ?_, (by rw [e34]; exact Ah7), hZ24, fun fs hr => ?_⟩
 · show Q_r45_setScope Z o0 o1 o_1 o_2 k_o_2 i_5 o_6 k_o_6 h0 n0 _ T34.heap _
   rw [e34]
   exact ⟨c20, b20, kb20, rfl, N34, C6, (Nat.lt_of_lt_of_le lta20 sz_4_7), (Nat.lt_of_lt_of_le ltb20 sz_4_7), f35, Fw34, f36, f37, f38, f39⟩
 refine t_aloadN 1 X0.here hx hby d471 rfl rfl rfl ?_
 refine st3 _ ?_
 refine st4 _ ?_
 refine t_aloadN 7 X4.here hx hby d474 rfl rfl rfl ?_
 refine st7 _ ?_
 refine t_ifYes (pc := 10) 36 X7.here hx hby d476 (by decide) (by decide) (by decide) ?_
 refine t_aloadN 37 X7.here hx hby d477 rfl rfl rfl ?_
 refine st13 _ ?_
 refine t_aloadN 40 X13.here hx hby d479 rfl rfl rfl ?_
 refine st14 _ ?_
 refine t_ifNo 46 X14.here hx hby d481 (by decide) rfl ?_
 refine st20 _ ?_
 refine t_goto (pc := 48) 53 X20.here hx hby d483 (by decide) (by decide) ?_
 refine st23 _ ?_
 refine t_aloadN 57 X23.here hx hby d485 rfl rfl rfl ?_
 refine t_aloadN 58 X23.here hx hby d486 rfl rfl rfl ?_
 refine st24 _ ?_
 refine st34 _ ?_
 exact X34.returnOut hx hret (hb hby d493) hr
def w334 (hw : HW Z a0) := ow 334 hw rfl
def w331 (hw : HW Z a0) := ow 331 hw rfl
def w332 (hw : HW Z a0) := ow 332 hw rfl
theorem law_10 (l : Launch) (Z : State) (a0 : Array Value) (hw : HW Z a0) (ws : List Jvm.Cond) (p0 p1 p2 p3 cs : Int32) (st_NO st_DC st_EL el_EL st_CD st_A : Addr) (tA : List Value) (m_AL m_UL m_UR m_LM m_UM : Addr) (k_el_EL : ClassId) (h0 : Heap) (n0 : Nat) (Z0 : n0 ≤ h0.size) (hcs : ¬ (cs = (0 : Int32))) (hs : ((p0 &&& (2147483647 : Int32)) - ((p0 &&& (2147483647 : Int32)) / (3 : Int32)) * (3 : Int32)) = (1 : Int32)) (hpm : (p1 &&& (3 : Int32)) = (0 : Int32)) (sCS : SCS Z cs) (O0 : Old Z n0 h0) (S_DEFAULTCAPACITY_EMPTY_ELEMENTDATA : Sa0 Z (.ref st_DC)) (S_NO : Sa2 Z (.ref st_NO)) (M_java_util_ArrayList : OMir Z "java/util/ArrayList" m_AL) (M_java_util_Collections_UnmodifiableList : OMir Z "java/util/Collections$UnmodifiableList" m_UL) (M_java_util_Collections_UnmodifiableRandomAccessList : OMir Z "java/util/Collections$UnmodifiableRandomAccessList" m_UR) (M_java_util_LinkedHashMap : OMir Z "java/util/LinkedHashMap" m_LM) (M_java_util_Collections_UnmodifiableMap : OMir Z "java/util/Collections$UnmodifiableMap" m_UM) (S_EMPTY_LIST : Sa1 Z (.ref st_EL)) (F_st_EL_elements : Fd28 Z h0 st_EL (.ref el_EL)) (V_el_EL : Arv Z h0 el_EL k_el_EL (.object "java/lang/Object") (0 : Int32) [] .null) (E_st_EL : Ex6 Z h0 st_EL) :
    LawM l Z ws p0 p1 p2 p3 h0 n0 := by
 refine own_bodyH (k := 26) (n := 315) (y := x) (Q := fun v _ L => Q_law n0 v L) (own_EW hw) (plainFor_of_name pn_BeanDefinitionGetScopePinLaw149) (ef_law p0 p1 p2 p3) (by decide) (by decide) ?_
 intro p e s m below meth c s₁ hx hby hml hown hnm hret hZ e0 hS0 hk0 X0 hC0 hSF0
 have N0 := Fr.nil n0
 obtain ⟨T1, h1, k1, X1, e1, E1, A1, st1⟩ := newP (aty := .char) X0 hx hZ (w1 hw) e0 (g := (mkF m 14 #[vi p0, vi p1, vi p2, vi p3, vi 1, vi 0, .unset, .unset, .unset, .unset, .unset, .unset] [(.int 2)])) rfl (hb hby at_14) rfl (by decide) (cap := 2) (by decide) (by decide) (by decide) (by decide)
 obtain ⟨b1, g1⟩ : ∃ z, z = h0.size := ⟨_, rfl⟩
 rw [← g1] at A1 st1
 have ge_b1 : h0.size ≤ b1 := Nat.le_of_eq g1.symm
 have K1 := KL.ofE E1
 have Ck0 := own_chK K1 na0 (CHr.refl hC0).1
 have Ah1 := (CHr.refl hC0).trans Ck0.1
 have V1 : Arv Z h1 b1 k1 .char 2 [z0, z0] z0 := (Arv.new A1 (by decide)).pad (pad_rep [] z0 2)
 obtain ⟨T2, h2, X2, e2, W2, V2, st2⟩ := own_astC X1 hx hZ e1 V1 (j := 0) (by decide) 0 rfl (Nat.le_of_ble_eq_true rfl) (g := (mkF m 32 #[vi p0, vi p1, vi p2, vi p3, vi 1, vi 0, vr b1, .unset, .unset, .unset, .unset, .unset] [(.int (own_c0 p2)), z0, (.ref b1)])) rfl rfl (hb hby at_32)
 rw [show (nar .char (own_c0 p2)) = (own_c0 p2) from (own_c2c (own_c0a p2) (own_c0b p2))] at V2
 have gg3 := Nat.le_trans Z0 ge_b1
 have K2 := KL.ofW W2
 have Ck1 := own_chK K2 (naF (Ck0.2 _ (Safe.new ge_b1)) na0) Ah1.1
 have Ah2 := Ah1.trans Ck1.1
 replace V2 : Arv Z h2 b1 k1 .char 2 [(.int (own_c0 p2)), z0] z0 := V2
 have N2 := Fr.snoc X2 N0 gg3
 obtain ⟨T4, h4, X4, e4, W4, V4, st4⟩ := own_astC X2 hx hZ e2 V2 (j := 1) (by decide) 1 rfl (Nat.le_of_ble_eq_true rfl) (g := (mkF m 42 #[vi p0, vi p1, vi p2, vi p3, vi 1, vi 0, vr b1, .unset, .unset, .unset, .unset, .unset] [(.int (p3 &&& (255 : Int32))), (.int 1), (.ref b1)])) rfl rfl (hb hby at_42)
 rw [show (nar .char (p3 &&& (255 : Int32))) = (p3 &&& (255 : Int32)) from (i2c_mask _)] at V4
 have K4 := KL.ofW W4
 have sf5 := (Ck1.2 _ (Ck0.2 _ (Safe.new ge_b1)))
 have Ck2 := own_chK K4 (naF sf5 na0) Ah2.1
 have Ah3 := Ah2.trans Ck2.1
 replace V4 : Arv Z h4 b1 k1 .char 2 [(.int (own_c0 p2)), (.int (p3 &&& (255 : Int32)))] z0 := V4
 have N4 := Fr.snoc X4 N2 gg3
 obtain ⟨T6, h6, X6, e6, E6, A6, D6, -, st6⟩ := newO X4 hx hZ hown (w2 hw) (w3 hw) (w4 hw) e4 (g := (mkF m 43 #[vi p0, vi p1, vi p2, vi p3, vi 1, vi 0, vr b1, .unset, .unset, .unset, .unset, .unset] [])) rfl (hb hby at_43) (by decide) (by decide)
 obtain ⟨b6, g6⟩ : ∃ z, z = h4.size := ⟨_, rfl⟩
 rw [← g6] at A6 D6 st6
 have ge_b6 : h4.size ≤ b6 := Nat.le_of_eq g6.symm
 have K6 := KL.ofE E6
 have Ck3 := own_chK K6 na0 Ah3.1
 have Ah4 := Ah3.trans Ck3.1
 have F_b6_coder : Fd3 Z h6 b6 z0 := D6 (Or.inr (w28 hw)) (ty := .byte) (by decide)
 have F_b6_value : Fd4 Z h6 b6 .null := D6 (Or.inr (w30 hw)) (ty := (.array .byte)) (by decide)
 have f8 := (kArv K6 V4 na0)
 have f9 := (kOld K6 (kOld K4 (kOld K2 (kOld K1 O0 na0) (naG gg3 na0)) (naG gg3 na0)) na0)
 have sz_0_2 := (Nat.le_trans K1.1 K2.1)
 have sz_0_3 := (Nat.le_trans sz_0_2 K4.1)
 have gg10 := Nat.le_trans Z0 (Nat.le_trans sz_0_3 ge_b6)
 have sz_0_4 := (Nat.le_trans sz_0_3 K6.1)
 obtain ⟨_, T7, L7, X7, hQ7, st7⟩ := own_init X6 hx hZ rfl hown (w5 hw) (w6 hw) (w4 hw) (w7 hw) (by decide) (r7__init_ l Z a0 hw [] b6 b1 (own_c0 p2) (p3 &&& (255 : Int32)) k1 cs h6 n0 (Nat.le_trans Z0 sz_0_4) f8 sCS F_b6_coder A6 F_b6_value f9 hcs (own_c0b p2) (own_m255b _) gg10) e6 (W := 1) (by decide) (g := (mkF m 49 #[vi p0, vi p1, vi p2, vi p3, vi 1, vi 0, vr b1, .unset, .unset, .unset, .unset, .unset] [(.ref b1), (.ref b6), (.ref b6)])) rfl hml.symm (argsL := [(.ref b1)]) (rest := [(.ref b6)]) (lenOf pd_8 rfl) rfl rfl (own_wr rfl rfl) (hb hby at_49)
 obtain ⟨b1_6_4_7, k1_6_4_7, rfl, N7q, K7, Q7_0, Q7_1, Q7_2, Q7_3⟩ := hQ7
 have N7 := Fr.app N4 N7q
 have Ck4 := own_chK K7 (naF (Ck3.2 _ (Safe.new ge_b6)) (naF (Ck3.2 _ (Safe.new ge_b6)) na0)) Ah4.1
 have Ah5 := Ah4.trans Ck4.1
 obtain ⟨T12, h12, X12, e12, E12, A12, D12, -, st12⟩ := newO X7 hx hZ hown (w31 hw) (w32 hw) (w33 hw) rfl (g := (mkF m 54 #[vi p0, vi p1, vi p2, vi p3, vi 1, vi 0, vr b1, vr b6, .unset, .unset, .unset, .unset] [])) rfl (hb hby at_54) (by decide) (by decide)
 obtain ⟨b12, g12⟩ : ∃ z, z = T7.heap.size := ⟨_, rfl⟩
 rw [← g12] at A12 D12 st12
 have ge_b12 : T7.heap.size ≤ b12 := Nat.le_of_eq g12.symm
 have K12 := KL.ofE E12
 have Ck5 := own_chK K12 na0 Ah5.1
 have Ah6 := Ah5.trans Ck5.1
 have F_b12_singleton : Fd5 Z h12 b12 z0 := D12 (Or.inl (w39 hw)) (ty := .boolean) (by decide)
 have F_b12_initMethodRequired : Fd6 Z h12 b12 z0 := D12 (Or.inl (w41 hw)) (ty := .boolean) (by decide)
 have F_b12_destroyMethodRequired : Fd7 Z h12 b12 z0 := D12 (Or.inl (w43 hw)) (ty := .boolean) (by decide)
 have F_b12_dependsOn : Fd8 Z h12 b12 .null := D12 (Or.inr (w69 hw)) (ty := (.object "java/util/List")) (by decide)
 have F_b12_autowireCandidate : Fd9 Z h12 b12 z0 := D12 (Or.inl (w71 hw)) (ty := .boolean) (by decide)
 have F_b12_autowireMode : Fd10 Z h12 b12 .null := D12 (Or.inl (w76 hw)) (ty := (.object "com/example/graft_container/graftcontainer/BeanDefinition$Autowire")) (by decide)
 have F_b12_qualifiers : Fd11 Z h12 b12 .null := D12 (Or.inr (w104 hw)) (ty := (.object "java/util/Map")) (by decide)
 have F_b12_propertyValues : Fd12 Z h12 b12 .null := D12 (Or.inr (w106 hw)) (ty := (.object "java/util/List")) (by decide)
 have F_b12_constructorArguments : Fd13 Z h12 b12 .null := D12 (Or.inr (w108 hw)) (ty := (.object "java/util/List")) (by decide)
 have F_b12_dependsOnView : Fd14 Z h12 b12 .null := D12 (Or.inr (w153 hw)) (ty := (.object "java/util/List")) (by decide)
 have F_b12_qualifiersView : Fd15 Z h12 b12 .null := D12 (Or.inr (w174 hw)) (ty := (.object "java/util/Map")) (by decide)
 have F_b12_propertyValuesView : Fd16 Z h12 b12 .null := D12 (Or.inr (w176 hw)) (ty := (.object "java/util/List")) (by decide)
 have F_b12_constructorArgumentsView : Fd17 Z h12 b12 .null := D12 (Or.inr (w178 hw)) (ty := (.object "java/util/List")) (by decide)
 have F_b12_changeListeners : Fd18 Z h12 b12 .null := D12 (Or.inl (w186 hw)) (ty := (.object "java/util/List")) (by decide)
 have F_b12_outers : Fd19 Z h12 b12 .null := D12 (Or.inl (w188 hw)) (ty := (.object "java/util/List")) (by decide)
 have F_b12_frozen : Fd20 Z h12 b12 z0 := D12 (Or.inl (w203 hw)) (ty := .boolean) (by decide)
 have F_b12_parentName : Fd21 Z h12 b12 .null := D12 (Or.inl (w310 hw)) (ty := (.object "java/lang/String")) (by decide)
 have F_b12_scope : Fd22 Z h12 b12 .null := D12 (Or.inl (w322 hw)) (ty := (.object "java/lang/String")) (by decide)
 have sz_0_5 := (Nat.le_trans sz_0_4 K7.1)
 have gg14 := Nat.le_trans Z0 (Nat.le_trans sz_0_5 ge_b12)
 have f15 := (kOld K12 (kOld K7 f9 (naG gg10 (naG gg10 na0))) na0)
 have sz_0_6 := (Nat.le_trans sz_0_5 K12.1)
 obtain ⟨_, T13, L13, X13, hQ13, st13⟩ := own_init X12 hx hZ rfl hown (w34 hw) (w35 hw) (w33 hw) (w36 hw) (by decide) (r12__init_ l Z a0 hw [] b12 st_DC st_NO m_AL m_UL m_UR m_LM m_UM st_EL h12 n0 (Nat.le_trans Z0 sz_0_6) F_b12_singleton A12 gg14 F_b12_initMethodRequired F_b12_destroyMethodRequired S_DEFAULTCAPACITY_EMPTY_ELEMENTDATA f15 F_b12_dependsOn F_b12_autowireCandidate S_NO F_b12_autowireMode F_b12_qualifiers F_b12_propertyValues F_b12_constructorArguments M_java_util_ArrayList M_java_util_Collections_UnmodifiableList M_java_util_Collections_UnmodifiableRandomAccessList F_b12_dependsOnView M_java_util_LinkedHashMap M_java_util_Collections_UnmodifiableMap F_b12_qualifiersView F_b12_propertyValuesView F_b12_constructorArgumentsView S_EMPTY_LIST F_b12_changeListeners F_b12_outers) e12 (W := 1) (by decide) (g := (mkF m 58 #[vi p0, vi p1, vi p2, vi p3, vi 1, vi 0, vr b1, vr b6, .unset, .unset, .unset, .unset] [(.ref b12), (.ref b12)])) rfl hml.symm (argsL := []) (rest := [(.ref b12)]) (lenOf pd_9 rfl) rfl rfl (own_wr rfl rfl) (hb hby at_58)
 obtain ⟨b9_13, b27_13, b34_13, b42_13, r_55_13, r_64_13, r_71_13, r_78_13, rfl, N13q, K13, Q13_0, Q13_1, Q13_2, Q13_3, Q13_4, Q13_5, Q13_6, Q13_7, Q13_8, Q13_9, Q13_10, Q13_11, Q13_12, Q13_13, Q13_14, Q13_15, Q13_16, Q13_17, Q13_18, Q13_19, Q13_20, Q13_21, Q13_22⟩ := hQ13
 have N13 := Fr.app N7 N13q
 have Ck6 := own_chK K13 (naFM 15 rfl (Safe.exa hZ.alike A12 (by decide) (by decide)) na0) Ah6.1
 have Ah7 := Ah6.trans Ck6.1
 have sz_0_7 := (Nat.le_trans sz_0_6 K13.1)
 obtain ⟨c16, T16, h16, k16, b16, kb16, X16, e16, E16, hS16, hk16, hZ16, hown16, Ex16, Fc16, Fv16, Ar16, lta16, ltb16, hC16, Lt16, hne16, st16⟩ := ldcCH X13 hx hZ hown (w329 hw) (own_wS hw) rfl hS0 (Nat.le_trans hk0 sz_0_7) (own_EW hw) (by decide) Ah7.1 (vs := [(.int 115), (.int 105), (.int 110), (.int 103), (.int 108), (.int 101), (.int 116), (.int 111), (.int 110)]) (z := 9) ⟨by decide, rfl⟩ (by decide) rfl (g := (mkF m 102 #[vi p0, vi p1, vi p2, vi p3, vi 1, vi 0, vr b1, vr b6, vr b12, .unset, .unset, .unset] [(.ref b12)])) rfl (hb hby at_102) (n := 36) (by decide) (by decide) (by decide) (by decide)
 have K16 := KL.ofE E16
 have Ah8 := Ah7.trans hC16
 have f18 := (kExa K16 (kExa K13 A12))
 have f19 := (kFld K16 (kFld K13 F_b12_frozen (nwf_2 hw b12)) nw0)
 have f20 := (kFld K16 Q13_22 nw0)
 have f21 := (kExa K16 (kExa K13 (kExa K12 (kExa K7 (kExa K6 (kExa K4 (kExa K2 (kExa K1 E_st_EL))))))))
 have lt_st_EL : st_EL < h0.size := Fld.lt F_st_EL_elements
 have ne22 := lt_ne lt_st_EL ge_b1
 have ne23 := lt_ne (Nat.lt_of_lt_of_le lt_st_EL sz_0_3) ge_b6
 have ne24 := lt_ne (Nat.lt_of_lt_of_le lt_st_EL sz_0_5) ge_b12
 have f25 := (kFld K16 (kFld K13 (kFld K12 (kFld K7 (kFld K6 (kFld K4 (kFld K2 (kFld K1 F_st_EL_elements nw0) (nwL ne22 nw0)) (nwL ne22 nw0)) nw0) (nwL ne23 (nwL ne23 nw0))) nw0) (nwM 15 rfl ne24 nw0)) nw0)
 have lt_el_EL : el_EL < h0.size := Arv.lt V_el_EL
 have ne26 := lt_ne lt_el_EL ge_b1
 have ne27 := lt_ne (Nat.lt_of_lt_of_le lt_el_EL sz_0_3) ge_b6
 have ne28 := lt_ne (Nat.lt_of_lt_of_le lt_el_EL sz_0_5) ge_b12
 have f29 := (kArv K16 (kArv K13 (kArv K12 (kArv K7 (kArv K6 (kArv K4 (kArv K2 (kArv K1 V_el_EL na0) (naN (Ne.symm ne26) na0)) (naN (Ne.symm ne26) na0)) na0) (naN (Ne.symm ne27) (naN (Ne.symm ne27) na0))) na0) (naNM 15 rfl (Ne.symm ne28) na0)) na0)
 have f30 := (kFld K16 Q13_21 nw0)
 have f31 := (kOld K16 (kOld K13 f15 (naGM 15 rfl gg14 na0)) na0)
 have f32 := (kFld K16 (kFld K13 F_b12_scope (nwf_0 hw b12)) nw0)
 have f33 := (kFld K16 Q13_8 nw0)
 have sz_0_8 := (Nat.le_trans sz_0_7 K16.1)
 obtain ⟨_, T17, L17, X17, hS17, hk17, hZ17, hown17, hQ17, hC17, st17⟩ := own_Hvirtual X16 hx hZ16 hown16 (w330 hw) (w331 hw) (nfS hZ16 (w333 hw)) (w333 hw) (w332 hw) (w33 hw) (w334 hw) (by decide) (r45_setScope l Z a0 hw [] b12 c16 st_EL el_EL k_el_EL cs b16 kb16 h16 n0 (Nat.le_trans Z0 sz_0_8) f18 f19 f20 f21 f25 f29 f30 Ex16 sCS Fc16 Fv16 Ar16 hcs f31 f32 gg14 f33) e16 f18 (W := 0) (by decide) (g := (mkF m 104 #[vi p0, vi p1, vi p2, vi p3, vi 1, vi 0, vr b1, vr b6, vr b12, .unset, .unset, .unset] [(.ref c16), (.ref b12)])) rfl hml.symm (argsL := [(.ref c16)]) (rest := []) (lenOf pd_25 rfl) rfl rfl (own_wr rfl rfl) (hb hby at_104) hS16 hk16 (own_EW hw) Ah8.1 sf0
 obtain ⟨c20_17, b20_17, kb20_17, rfl, N17q, K17, Q17_0, Q17_1, Q17_2, Q17_3, Q17_4, Q17_5, Q17_6, Q17_7⟩ := hQ17
 have N17 := Fr.app N13 N17q
 have Ah9 := Ah8.trans hC17
 have sz_0_9 := (Nat.le_trans sz_0_8 K17.1)
 have f35 := (kExa K17 f18)
 obtain ⟨_, T34, L34, X34, hQ34, st34⟩ := own_virtual X17 hx hZ17 hown17 (w328 hw) (w317 hw) (nfS hZ17 (w319 hw)) (w319 hw) (w318 hw) (w33 hw) (w320 hw) (by decide) (r47_getScope l Z a0 hw [] b12 c20_17 T17.heap n0 (Nat.le_trans Z0 sz_0_9) Q17_2) rfl f35 (W := 0) (by decide) (g := (mkF m 157 #[vi p0, vi p1, vi p2, vi p3, vi 1, vi 0, vr b1, vr b6, vr b12, vi 0, .unset, .unset] [(.ref b12)])) rfl hml.symm (argsL := []) (rest := []) (lenOf pd_13 rfl) rfl rfl (own_wr rfl rfl) (hb hby at_157)
 obtain ⟨rfl, N34q, e34⟩ := hQ34
 have N34 := Fr.app N17 N34q
 obtain ⟨c36, T36, h36, k36, b36, kb36, X36, e36, E36, hS36, hk36, hZ36, hown36, Ex36, Fc36, Fv36, Ar36, lta36, ltb36, hC36, Lt36, hne36, st36⟩ := ldcCH X34 hx hZ17 hown17 (w329 hw) (own_wS hw) e34 hS17 hk17 (own_EW hw) (by decide) Ah9.1 (vs := [(.int 115), (.int 105), (.int 110), (.int 103), (.int 108), (.int 101), (.int 116), (.int 111), (.int 110)]) (z := 9) ⟨by decide, rfl⟩ (by decide) rfl (g := (mkF m 168 #[vi p0, vi p1, vi p2, vi p3, vi 1, vi 0, vr b1, vr b6, vr b12, vi 0, vr c20_17, .unset] [])) rfl (hb hby at_168) (n := 36) (by decide) (by decide) (by decide) (by decide)
 have K36 := KL.ofE E36
 have Ah10 := Ah9.trans hC36
 have f38 := (kExa K36 Q17_4)
 have f39 := (kOld K36 (kOld K17 f31 (naG gg14 (naG gg14 na0))) na0)
 have f40 := (kFld K36 Q17_5 nw0)
 have f41 := (kFld K36 Q17_6 nw0)
 have f42 := (kArv K36 Q17_7 na0)
 have sz_0_10 := (Nat.le_trans sz_0_9 K36.1)
 obtain ⟨_, T37, L37, X37, hQ37, st37⟩ := own_virtual X36 hx hZ36 hown36 (w335 hw) (w324 hw) (nfS hZ36 (w326 hw)) (w326 hw) (w325 hw) (w4 hw) (w327 hw) (by decide) (r_eqs l Z a0 hw [] c36 c20_17 b36 b20_17 cs kb36 kb20_17 h36 n0 (Nat.le_trans Z0 sz_0_10) hcs f38 sCS f39 Fc36 f40 Fv36 f41 Ar36 f42) e36 Ex36 (W := 0) (by decide) (g := (mkF m 228 #[vi p0, vi p1, vi p2, vi p3, vi 1, vi 0, vr b1, vr b6, vr b12, vi 0, vr c20_17, vr c36] [(.ref c20_17), (.ref c36)])) rfl hml.symm (argsL := [(.ref c20_17)]) (rest := []) (lenOf pd_14 rfl) rfl rfl (own_wr rfl rfl) (hb hby at_228)
 obtain ⟨rfl, N37q, e37⟩ := hQ37
 have N37 := Fr.app N34 N37q
 refine ⟨T37, _, some (.int 1), _, _, X37, hS36, (by rw [e37]; exact hk36), (fun h => by cases h <;> rfl), ?_, (by rw [e37]; exact Ah10), hZ36, fun fs hr => ?_⟩
 · show Q_law n0 _ _
   exact ⟨rfl, N37⟩
 refine t_iloadN 1 X0.here hx hby at_0 rfl rfl ?_
 refine X0.ldcInt hx hown (mvT hZ (w0 hw)) (g := (mkF m 1 #[vi p0, vi p1, vi p2, vi p3, .unset, .unset, .unset, .unset, .unset, .unset, .unset, .unset] [(.int p0)])) rfl (hb hby at_1) _ ?_
 refine t_iand 4 X0.here hx hby at_3 rfl rfl ?_
 refine t_iconst 5 (r := 3) X0.here hx hby at_4 (by decide) rfl ?_
 refine t_irem 6 (r := 1) X0.here hx hby at_5 (by decide) hs rfl ?_
 refine t_istore (pc' := 8) (L' := #[vi p0, vi p1, vi p2, vi p3, vi 1, .unset, .unset, .unset, .unset, .unset, .unset, .unset]) X0.here hx hby at_6 rfl rfl ?_
 refine t_iloadN 9 X0.here hx hby at_8 rfl rfl ?_
 refine t_iconst 10 (r := 3) X0.here hx hby at_9 (by decide) rfl ?_
 refine t_iand 11 (r := 0) X0.here hx hby at_10 hpm rfl ?_
 refine t_istore (pc' := 13) (L' := #[vi p0, vi p1, vi p2, vi p3, vi 1, vi 0, .unset, .unset, .unset, .unset, .unset, .unset]) X0.here hx hby at_11 rfl rfl ?_
 refine t_iconst 14 (r := 2) X0.here hx hby at_13 (by decide) rfl ?_
 refine st1 _ ?_
 refine t_astore (pc' := 18) (L' := #[vi p0, vi p1, vi p2, vi p3, vi 1, vi 0, vr b1, .unset, .unset, .unset, .unset, .unset]) X1.here hx hby at_16 rfl rfl rfl ?_
 refine t_aload 20 X1.here hx hby at_18 rfl rfl rfl ?_
 refine t_iconst 21 (r := 0) X1.here hx hby at_20 (by decide) rfl ?_
 refine t_bipush 23 (r := 33) X1.here hx hby at_21 (by decide) rfl ?_
 refine t_iloadN 24 X1.here hx hby at_23 rfl rfl ?_
 refine X1.ldcInt hx hown (mvT hZ (w0 hw)) (g := (mkF m 24 #[vi p0, vi p1, vi p2, vi p3, vi 1, vi 0, vr b1, .unset, .unset, .unset, .unset, .unset] [(.int p2), (.int 33), z0, (.ref b1)])) rfl (hb hby at_24) _ ?_
 refine t_iand 27 X1.here hx hby at_26 rfl rfl ?_
 refine t_bipush 29 (r := 94) X1.here hx hby at_27 (by decide) rfl ?_
 refine t_irem 30 X1.here hx hby at_29 (by decide) rfl rfl ?_
 refine t_iadd 31 (r := (own_c0 p2)) X1.here hx hby at_30 (Eq.refl (own_c0 p2)) rfl ?_
 refine t_i2c 32 (r := (own_c0 p2)) X1.here hx hby at_31 (own_c2c (own_c0a p2) (own_c0b p2)) rfl ?_
 refine st2 _ ?_
 refine t_aload 35 X2.here hx hby at_33 rfl rfl rfl ?_
 refine t_iconst 36 (r := 1) X2.here hx hby at_35 (by decide) rfl ?_
 refine t_iloadN 37 X2.here hx hby at_36 rfl rfl ?_
 refine t_sipush 40 (r := 255) X2.here hx hby at_37 (by decide) rfl ?_
 refine t_iand 41 X2.here hx hby at_40 rfl rfl ?_
 refine t_i2c 42 (r := (p3 &&& (255 : Int32))) X2.here hx hby at_41 (i2c_mask _) rfl ?_
 refine st4 _ ?_
 refine st6 _ ?_
 refine t_dup 47 X6.here hx hby at_46 rfl rfl ?_
 refine t_aload 49 X6.here hx hby at_47 rfl rfl rfl ?_
 refine st7 _ ?_
 refine t_astore (pc' := 54) (L' := #[vi p0, vi p1, vi p2, vi p3, vi 1, vi 0, vr b1, vr b6, .unset, .unset, .unset, .unset]) X7.here hx hby at_52 rfl rfl rfl ?_
 refine st12 _ ?_
 refine t_dup 58 X12.here hx hby at_57 rfl rfl ?_
 refine st13 _ ?_
 refine t_astore (pc' := 63) (L' := #[vi p0, vi p1, vi p2, vi p3, vi 1, vi 0, vr b1, vr b6, vr b12, .unset, .unset, .unset]) X13.here hx hby at_61 rfl rfl rfl ?_
 refine t_iload 65 X13.here hx hby at_63 rfl rfl ?_
 refine t_iconst 66 (r := 1) X13.here hx hby at_65 (by decide) rfl ?_
 refine t_icmpNo 69 X13.here hx hby at_66 (by decide) rfl ?_
 refine t_iload 71 X13.here hx hby at_69 rfl rfl ?_
 refine t_iconst 72 (r := 2) X13.here hx hby at_71 (by decide) rfl ?_
 refine t_icmpYes (pc := 72) 82 X13.here hx hby at_72 (by decide) (by decide) (by decide) ?_
 refine t_iload 84 X13.here hx hby at_82 rfl rfl ?_
 refine t_iconst 85 (r := 2) X13.here hx hby at_84 (by decide) rfl ?_
 refine t_icmpYes (pc := 85) 94 X13.here hx hby at_85 (by decide) (by decide) (by decide) ?_
 refine t_iload 96 X13.here hx hby at_94 rfl rfl ?_
 refine t_iconst 97 (r := 1) X13.here hx hby at_96 (by decide) rfl ?_
 refine t_icmpNo 100 X13.here hx hby at_97 (by decide) rfl ?_
 refine t_aload 102 X13.here hx hby at_100 rfl rfl rfl ?_
 refine st16 _ ?_
 refine st17 _ ?_
 refine t_goto (pc := 107) 123 X17.here hx hby at_107 (by decide) (by decide) ?_
 refine t_iload 125 X17.here hx hby at_123 rfl rfl ?_
 refine t_iconst 126 (r := 3) X17.here hx hby at_125 (by decide) rfl ?_
 refine t_icmpYes (pc := 126) 136 X17.here hx hby at_126 (by decide) (by decide) (by decide) ?_
 refine t_iload 138 X17.here hx hby at_136 rfl rfl ?_
 refine t_iconst 139 (r := 1) X17.here hx hby at_138 (by decide) rfl ?_
 refine t_icmpNo 142 X17.here hx hby at_139 (by decide) rfl ?_
 refine t_iload 144 X17.here hx hby at_142 rfl rfl ?_
 refine t_iconst 145 (r := 3) X17.here hx hby at_144 (by decide) rfl ?_
 refine t_icmpYes (pc := 145) 152 X17.here hx hby at_145 (by decide) (by decide) (by decide) ?_
 refine t_iconst 153 (r := 0) X17.here hx hby at_152 (by decide) rfl ?_
 refine t_istore (pc' := 155) (L' := #[vi p0, vi p1, vi p2, vi p3, vi 1, vi 0, vr b1, vr b6, vr b12, vi 0, .unset, .unset]) X17.here hx hby at_153 rfl rfl ?_
 refine t_aload 157 X17.here hx hby at_155 rfl rfl rfl ?_
 refine st34 _ ?_
 refine t_astore (pc' := 162) (L' := #[vi p0, vi p1, vi p2, vi p3, vi 1, vi 0, vr b1, vr b6, vr b12, vi 0, vr c20_17, .unset]) X34.here hx hby at_160 rfl rfl rfl ?_
 refine t_iload 164 X34.here hx hby at_162 rfl rfl ?_
 refine t_iconst 165 (r := 1) X34.here hx hby at_164 (by decide) rfl ?_
 refine t_icmpNo 168 X34.here hx hby at_165 (by decide) rfl ?_
 refine st36 _ ?_
 refine t_astore (pc' := 172) (L' := #[vi p0, vi p1, vi p2, vi p3, vi 1, vi 0, vr b1, vr b6, vr b12, vi 0, vr c20_17, vr c36]) X36.here hx hby at_170 rfl rfl rfl ?_
 refine t_goto (pc := 172) 203 X36.here hx hby at_172 (by decide) (by decide) ?_
 refine t_aload 205 X36.here hx hby at_203 rfl rfl rfl ?_
 refine t_ifnonnullYes (pc := 205) 219 X36.here hx hby at_205 (by decide) (by decide) ?_
 refine t_aload 221 X36.here hx hby at_219 rfl rfl rfl ?_
 refine t_ifnullNo 224 X36.here hx hby at_221 rfl ?_
 refine t_aload 226 X36.here hx hby at_224 rfl rfl rfl ?_
 refine t_aload 228 X36.here hx hby at_226 rfl rfl rfl ?_
 refine st37 _ ?_
 refine t_ifNo 234 X37.here hx hby at_231 (by decide) rfl ?_
 refine t_iconst 235 (r := 1) X37.here hx hby at_234 (by decide) rfl ?_
 refine t_goto (pc := 235) 239 X37.here hx hby at_235 (by decide) (by decide) ?_
 exact retN X37 hx (t := .boolean) hret (by simp) (hb hby at_239) hr
def WS_r48_setScope (Z : State) (o0 : Addr) : List (Addr × Nat) := [(o0, (sl22 Z)), (o0, (sl5 Z))]
def Q_r48_setScope (Z : State) (o0 o1 o_1 o_2 : Addr) (k_o_2 : ClassId) (i_5 : Int32) (o_6 : Addr) (k_o_6 : ClassId) (h0 : Heap) (n0 : Nat) (v : Option Value) (h : Heap) (L : List Loc) : Prop := ∃ c20 : Addr, ∃ b20 : Addr, ∃ kb20 : ClassId, v = none ∧ Fr n0 L ∧ KL h0 h (WS_r48_setScope Z o0) ∧ c20 < h.size ∧ b20 < h.size ∧ Fd22 Z h o0 (.ref c20) ∧ Fd5 Z h o0 (.int 1) ∧ Ex4 Z h c20 ∧ Fd3 Z h c20 z0 ∧ Fd4 Z h c20 (.ref b20) ∧ Arv Z h b20 kb20 .byte 9 [(.int 115), (.int 105), (.int 110), (.int 103), (.int 108), (.int 101), (.int 116), (.int 111), (.int 110)] z0
theorem r48_setScope (l : Launch) (Z : State) (a0 : Array Value) (hw : HW Z a0) (ws : List Jvm.Cond) (o0 o1 o_1 o_2 : Addr) (k_o_2 : ClassId) (i_5 : Int32) (o_6 : Addr) (k_o_6 : ClassId) (h0 : Heap) (n0 : Nat) (Z0 : n0 ≤ h0.size) (E_o0 : Ex5 Z h0 o0) (F_o0_frozen : Fd20 Z h0 o0 z0) (F_o0_outers : Fd19 Z h0 o0 (.ref o_1)) (E_o_1 : Ex6 Z h0 o_1) (F_o_1_elements : Fd28 Z h0 o_1 (.ref o_2)) (V_o_2 : Arv Z h0 o_2 k_o_2 (.object "java/lang/Object") (0 : Int32) [] .null) (F_o0_changeListeners : Fd18 Z h0 o0 (.ref o_1)) (E_o1 : Ex4 Z h0 o1) (sCS : SCS Z i_5) (F_o1_coder : Fd3 Z h0 o1 z0) (F_o1_value : Fd4 Z h0 o1 (.ref o_6)) (V_o_6 : Arv Z h0 o_6 k_o_6 .byte 9 [(.int 115), (.int 105), (.int 110), (.int 103), (.int 108), (.int 101), (.int 116), (.int 111), (.int 110)] z0) (hp0 : ¬ (i_5 = (0 : Int32))) (O0 : Old Z n0 h0) (F_o0_scope : Fd22 Z h0 o0 .null) (g_o0 : n0 ≤ o0) (F_o0_singleton : Fd5 Z h0 o0 z0) :
    OMH l Z consts_1 [] y41_setScope b41_ 2 none ws ⟨5, 10, 168, 67⟩ #[(.ref o0), (.ref o1)] h0 (Q_r48_setScope Z o0 o1 o_1 o_2 k_o_2 i_5 o_6 k_o_6 h0 n0) := by
 refine own_bodyH (k := 10) (n := 168) (own_EW hw) (plainFor_of_name pn_BeanDefinition762) (ef_0 o0 o1) (by decide) (by decide) ?_
 intro p e s m below meth c s₁ hx hby hml hown hnm hret hZ e0 hS0 hk0 X0 hC0 hSF0
 have N0 := Fr.nil n0
 obtain ⟨_, T3, L3, X3, hQ3, st3⟩ := own_private X0 hx hZ hown (w194 hw) (w195 hw) (w192 hw) rfl (w196 hw) (w33 hw) (w197 hw) (by decide) (r22_beginChange l Z a0 hw [] o0 o_1 o_2 k_o_2 h0 n0 Z0 E_o0 F_o0_frozen F_o0_outers E_o_1 F_o_1_elements V_o_2 F_o0_changeListeners) e0 E_o0 (W := 0) (by decide) (g := (mkF m 1 #[vr o0, vr o1] [(.ref o0)])) rfl hml.symm (argsL := []) (rest := []) (lenOf pd_9 rfl) rfl rfl (own_wr rfl rfl) (hb hby d472)
 obtain ⟨rfl, N3q, K3⟩ := hQ3
 have N3 := Fr.app N0 N3q
 have Ck0 := own_chK K3 na0 (CHr.refl hC0).1
 have Ah1 := (CHr.refl hC0).trans Ck0.1
 obtain ⟨c4, T4, h4, k4, b4, kb4, X4, e4, E4, hS4, hk4, hZ4, hown4, Ex4, Fc4, Fv4, Ar4, lta4, ltb4, hC4, Lt4, hne4, st4⟩ := ldcCH X3 hx hZ hown (w315 hw) (own_wS hw) rfl hS0 (Nat.le_trans hk0 K3.1) (own_EW hw) (by decide) Ah1.1 (vs := [(.int 115), (.int 105), (.int 110), (.int 103), (.int 108), (.int 101), (.int 116), (.int 111), (.int 110)]) (z := 9) ⟨by decide, rfl⟩ (by decide) rfl (g := (mkF m 4 #[vr o0, vr o1] [])) rfl (hb hby d473) (n := 36) (by decide) (by decide) (by decide) (by decide)
 have K4 := KL.ofE E4
 have Ah2 := Ah1.trans hC4
 have f8 := (kExa K4 (kExa K3 E_o1))
 have f9 := (kOld K4 (kOld K3 O0 na0) na0)
 have f10 := (kFld K4 (kFld K3 F_o1_coder nw0) nw0)
 have f11 := (kFld K4 (kFld K3 F_o1_value nw0) nw0)
 have f12 := (kArv K4 (kArv K3 V_o_6 na0) na0)
 have sz_0_2 := (Nat.le_trans K3.1 K4.1)
 obtain ⟨_, T7, L7, X7, hQ7, st7⟩ := own_virtual X4 hx hZ4 hown4 (w323 hw) (w324 hw) (nfS hZ4 (w326 hw)) (w326 hw) (w325 hw) (w4 hw) (w327 hw) (by decide) (r_eqs l Z a0 hw [] c4 o1 b4 o_6 i_5 kb4 k_o_6 h4 n0 (Nat.le_trans Z0 sz_0_2) hp0 f8 sCS f9 Fc4 f10 Fv4 f11 Ar4 f12) e4 Ex4 (W := 0) (by decide) (g := (mkF m 7 #[vr o0, vr o1] [(.ref o1), (.ref c4)])) rfl hml.symm (argsL := [(.ref o1)]) (rest := []) (lenOf pd_14 rfl) rfl rfl (own_wr rfl rfl) (hb hby d475)
 obtain ⟨rfl, N7q, e7⟩ := hQ7
 have N7 := Fr.app N3 N7q
 obtain ⟨c13, T13, h13, k13, b13, kb13, X13, e13, E13, hS13, hk13, hZ13, hown13, Ex13, Fc13, Fv13, Ar13, lta13, ltb13, hC13, Lt13, hne13, st13⟩ := ldcCH X7 hx hZ4 hown4 (w315 hw) (own_wS hw) e7 hS4 hk4 (own_EW hw) (by decide) Ah2.1 (vs := [(.int 115), (.int 105), (.int 110), (.int 103), (.int 108), (.int 101), (.int 116), (.int 111), (.int 110)]) (z := 9) ⟨by decide, rfl⟩ (by decide) rfl (g := (mkF m 37 #[vr o0, vr o1] [(.ref o0)])) rfl (hb hby d478) (n := 36) (by decide) (by decide) (by decide) (by decide)
 have K13 := KL.ofE E13
 have Ah3 := Ah2.trans hC13
 have f15 := (kExa K13 f8)
 have f16 := (kOld K13 f9 na0)
 have f17 := (kFld K13 f10 nw0)
 have f18 := (kFld K13 f11 nw0)
 have f19 := (kArv K13 f12 na0)
 have sz_0_3 := (Nat.le_trans sz_0_2 K13.1)
 obtain ⟨_, T14, L14, X14, hQ14, st14⟩ := own_virtual X13 hx hZ13 hown13 (w323 hw) (w324 hw) (nfS hZ13 (w326 hw)) (w326 hw) (w325 hw) (w4 hw) (w327 hw) (by decide) (r_eqs l Z a0 hw [] c13 o1 b13 o_6 i_5 kb13 k_o_6 h13 n0 (Nat.le_trans Z0 sz_0_3) hp0 f15 sCS f16 Fc13 f17 Fv13 f18 Ar13 f19) e13 Ex13 (W := 1) (by decide) (g := (mkF m 40 #[vr o0, vr o1] [(.ref o1), (.ref c13), (.ref o0)])) rfl hml.symm (argsL := [(.ref o1)]) (rest := [(.ref o0)]) (lenOf pd_14 rfl) rfl rfl (own_wr rfl rfl) (hb hby d480)
 obtain ⟨rfl, N14q, e14⟩ := hQ14
 have N14 := Fr.app N7 N14q
 obtain ⟨c20, T20, h20, k20, b20, kb20, X20, e20, E20, hS20, hk20, hZ20, hown20, Ex20, Fc20, Fv20, Ar20, lta20, ltb20, hC20, Lt20, hne20, st20⟩ := ldcCH X14 hx hZ13 hown13 (w315 hw) (own_wS hw) e14 hS13 hk13 (own_EW hw) (by decide) Ah3.1 (vs := [(.int 115), (.int 105), (.int 110), (.int 103), (.int 108), (.int 101), (.int 116), (.int 111), (.int 110)]) (z := 9) ⟨by decide, rfl⟩ (by decide) rfl (g := (mkF m 46 #[vr o0, vr o1] [(.ref o0)])) rfl (hb hby d482) (n := 36) (by decide) (by decide) (by decide) (by decide)
 have K20 := KL.ofE E20
 have Ah4 := Ah3.trans hC20
 have f21 := (kFld K20 (kFld K13 (kFld K4 (kFld K3 F_o0_scope nw0) nw0) nw0) nw0)
 have f22 := (kExa K20 (kExa K13 (kExa K4 (kExa K3 E_o0))))
 obtain ⟨T23, h23, X23, e23, W23, st23⟩ := putF X20 hx hZ20 hown20 (host := "") (Or.inl (w321 hw)) Via.refl e20 f21 f22 (Or.inl (w322 hw)) (w32 hw) (ty := (.object "java/lang/String")) (by decide) rfl rfl (g := (mkF m 53 #[vr o0, vr o1] [(.ref c20), (.ref o0)])) rfl rfl (hb hby d484)
 have K23 := KL.ofW W23
 have Ck4 := own_chK K23 (naF (Safe.exa hZ20.alike f22 (by decide) (by decide)) na0) Ah4.1
 have Ah5 := Ah4.trans Ck4.1
 have Fw23 : Fd22 Z h23 o0 (.ref c20) := Fld.same W23 f21
 have N23 := Fr.snoc X23 N14 g_o0
 have f25 := (kExa K23 f22)
 have f26 := (kExa K23 Ex20)
 have lt_o0 : o0 < h0.size := Exa.lt E_o0
 have sf27 := (CHr.safe hC20 (Nat.lt_of_lt_of_le lt_o0 sz_0_3) (CHr.safe hC13 (Nat.lt_of_lt_of_le lt_o0 sz_0_2) (CHr.safe hC4 (Nat.lt_of_lt_of_le lt_o0 K3.1) (Ck0.2 _ (Safe.exa (by first | exact hZ.alike | assumption) E_o0 (by decide) (by decide))))))
 have f28 := (kFld K23 Fc20 (nwL (Ne.symm (hne20 _ sf27).1) nw0))
 have f29 := (kFld K23 Fv20 (nwL (Ne.symm (hne20 _ sf27).1) nw0))
 have f30 := (kArv K23 Ar20 (naN (hne20 _ sf27).2 na0))
 have f31 := (kOld K23 (kOld K20 f16 na0) (naG g_o0 na0))
 have sz_0_4 := (Nat.le_trans sz_0_3 K20.1)
 have sz_0_5 := (Nat.le_trans sz_0_4 K23.1)
 obtain ⟨_, T24, L24, X24, hS24, hk24, hZ24, hown24, hQ24, hC24, st24⟩ := own_Hprivate X23 hx hZ20 hown20 (w311 hw) (w312 hw) (w192 hw) rfl (w313 hw) (w33 hw) (w314 hw) (by decide) (r46_singletonScope l Z a0 hw [] o0 c20 i_5 b20 kb20 h23 n0 (Nat.le_trans Z0 sz_0_5) f25 Fw23 f26 sCS f28 f29 f30 hp0 f31) e23 f25 (W := 1) (by decide) (g := (mkF m 58 #[vr o0, vr o1] [(.ref o0), (.ref o0)])) rfl hml.symm (argsL := []) (rest := [(.ref o0)]) (lenOf pd_16 rfl) rfl rfl (own_wr rfl rfl) (hb hby d487) hS20 (Nat.le_trans hk20 K23.1) (own_EW hw) Ah5.1 sf0
 obtain ⟨rfl, N24q, K24⟩ := hQ24
 have N24 := Fr.app N23 N24q
 have Ah6 := Ah5.trans hC24
 have f32 := (kFld K24 (kFld K23 (kFld K20 (kFld K13 (kFld K4 (kFld K3 F_o0_singleton nw0) nw0) nw0) nw0) (nwR (sn_284 hw) nw0)) nw0)
 have f33 := (kExa K24 f25)
 obtain ⟨T34, h34, X34, e34, W34, st34⟩ := putF X24 hx hZ24 hown24 (host := "") (Or.inl (w38 hw)) Via.refl rfl f32 f33 (Or.inl (w39 hw)) (w32 hw) (ty := .boolean) (by decide) (by decide) (by decide) (g := (mkF m 61 #[vr o0, vr o1] [(.int 1), (.ref o0)])) rfl rfl (hb hby d492)
 have K34 := KL.ofW W34
 have Ck6 := own_chK K34 (naF (Safe.exa hZ24.alike f33 (by decide) (by decide)) na0) Ah6.1
 have Ah7 := Ah6.trans Ck6.1
 have Fw34 : Fd5 Z h34 o0 (.int 1) := Fld.same W34 f32
 have N34 := Fr.snoc X34 N24 g_o0
 have C0 := (KL.refl h0 (WS_r48_setScope Z o0)).trans K3 na0
 have C1 := C0.trans K4 na0
 have C2 := C1.trans K13 na0
 have C3 := C2.trans K20 na0
 have C4 := C3.trans K23 (naO (own_mi 0 rfl) na0)
 have C5 := C4.trans K24 na0
 have C6 := C5.trans K34 (naO (own_mi 1 rfl) na0)
 have sz_4_6 := (Nat.le_trans K23.1 K24.1)
 have sz_4_7 := (Nat.le_trans sz_4_6 K34.1)
 have f35 := (kFld K34 (kFld K24 Fw23 nw0) (nwR (sn_236 hw) nw0))
 have f36 := (kExa K34 (kExa K24 f26))
 have f37 := (kFld K34 (kFld K24 f28 nw0) (nwL (Ne.symm (hne20 _ sf27).1) nw0))
 have f38 := (kFld K34 (kFld K24 f29 nw0) (nwL (Ne.symm (hne20 _ sf27).1) nw0))
 have f39 := (kArv K34 (kArv K24 f30 na0) (naN (hne20 _ sf27).2 na0))
 refine ⟨T34, _, none, _, _, X34, hS24, (by rw [e34]; exact (Nat.le_trans hk24 K34.1)), (fun h => by cases h <;> rfl), ?_, (by rw [e34]; exact Ah7), hZ24, fun fs hr => ?_⟩
 · show Q_r48_setScope Z o0 o1 o_1 o_2 k_o_2 i_5 o_6 k_o_6 h0 n0 _ T34.heap _
   rw [e34]
   exact ⟨c20, b20, kb20, rfl, N34, C6, (Nat.lt_of_lt_of_le lta20 sz_4_7), (Nat.lt_of_lt_of_le ltb20 sz_4_7), f35, Fw34, f36, f37, f38, f39⟩
 refine t_aloadN 1 X0.here hx hby d471 rfl rfl rfl ?_
 refine st3 _ ?_
 refine st4 _ ?_
 refine t_aloadN 7 X4.here hx hby d474 rfl rfl rfl ?_
 refine st7 _ ?_
 refine t_ifYes (pc := 10) 36 X7.here hx hby d476 (by decide) (by decide) (by decide) ?_
 refine t_aloadN 37 X7.here hx hby d477 rfl rfl rfl ?_
 refine st13 _ ?_
 refine t_aloadN 40 X13.here hx hby d479 rfl rfl rfl ?_
 refine st14 _ ?_
 refine t_ifNo 46 X14.here hx hby d481 (by decide) rfl ?_
 refine st20 _ ?_
 refine t_goto (pc := 48) 53 X20.here hx hby d483 (by decide) (by decide) ?_
 refine st23 _ ?_
 refine t_aloadN 57 X23.here hx hby d485 rfl rfl rfl ?_
 refine t_aloadN 58 X23.here hx hby d486 rfl rfl rfl ?_
 refine st24 _ ?_
 refine st34 _ ?_
 exact X34.returnOut hx hret (hb hby d493) hr
theorem law_11 (l : Launch) (Z : State) (a0 : Array Value) (hw : HW Z a0) (ws : List Jvm.Cond) (p0 p1 p2 p3 cs : Int32) (st_NO st_DC st_EL el_EL st_CD st_A : Addr) (tA : List Value) (m_AL m_UL m_UR m_LM m_UM : Addr) (k_el_EL k_st_A : ClassId) (h0 : Heap) (n0 : Nat) (Z0 : n0 ≤ h0.size) (hcs : ¬ (cs = (0 : Int32))) (hA : TabA tA) (hs : ((p0 &&& (2147483647 : Int32)) - ((p0 &&& (2147483647 : Int32)) / (3 : Int32)) * (3 : Int32)) = (1 : Int32)) (hpm : (p1 &&& (3 : Int32)) = (1 : Int32)) (sCS : SCS Z cs) (O0 : Old Z n0 h0) (S_DEFAULTCAPACITY_EMPTY_ELEMENTDATA : Sa0 Z (.ref st_DC)) (S_NO : Sa2 Z (.ref st_NO)) (M_java_util_ArrayList : OMir Z "java/util/ArrayList" m_AL) (M_java_util_Collections_UnmodifiableList : OMir Z "java/util/Collections$UnmodifiableList" m_UL) (M_java_util_Collections_UnmodifiableRandomAccessList : OMir Z "java/util/Collections$UnmodifiableRandomAccessList" m_UR) (M_java_util_LinkedHashMap : OMir Z "java/util/LinkedHashMap" m_LM) (M_java_util_Collections_UnmodifiableMap : OMir Z "java/util/Collections$UnmodifiableMap" m_UM) (S_EMPTY_LIST : Sa1 Z (.ref st_EL)) (E_st_EL : Ex6 Z h0 st_EL) (F_st_EL_elements : Fd28 Z h0 st_EL (.ref el_EL)) (V_el_EL : Arv Z h0 el_EL k_el_EL (.object "java/lang/Object") (0 : Int32) [] .null) (S_instance : Sa4 Z (.ref st_CD)) (E_st_CD : Ex8 Z h0 st_CD) (S_A : Sa3 Z (.ref st_A)) (V_st_A : Arv Z h0 st_A k_st_A .int 256 tA z0) :
    LawM l Z ws p0 p1 p2 p3 h0 n0 := by
 refine own_bodyH (k := 32) (n := 543) (y := x) (Q := fun v _ L => Q_law n0 v L) (own_EW hw) (plainFor_of_name pn_BeanDefinitionGetScopePinLaw149) (ef_law p0 p1 p2 p3) (by decide) (by decide) ?_
 intro p e s m below meth c s₁ hx hby hml hown hnm hret hZ e0 hS0 hk0 X0 hC0 hSF0
 have N0 := Fr.nil n0
 obtain ⟨T1, h1, k1, X1, e1, E1, A1, st1⟩ := newP (aty := .char) X0 hx hZ (w1 hw) e0 (g := (mkF m 14 #[vi p0, vi p1, vi p2, vi p3, vi 1, vi 1, .unset, .unset, .unset, .unset, .unset, .unset] [(.int 2)])) rfl (hb hby at_14) rfl (by decide) (cap := 2) (by decide) (by decide) (by decide) (by decide)
 obtain ⟨b1, g1⟩ : ∃ z, z = h0.size := ⟨_, rfl⟩
 rw [← g1] at A1 st1
 have ge_b1 : h0.size ≤ b1 := Nat.le_of_eq g1.symm
 have K1 := KL.ofE E1
 have Ck0 := own_chK K1 na0 (CHr.refl hC0).1
 have Ah1 := (CHr.refl hC0).trans Ck0.1
 have V1 : Arv Z h1 b1 k1 .char 2 [z0, z0] z0 := (Arv.new A1 (by decide)).pad (pad_rep [] z0 2)
 obtain ⟨T2, h2, X2, e2, W2, V2, st2⟩ := own_astC X1 hx hZ e1 V1 (j := 0) (by decide) 0 rfl (Nat.le_of_ble_eq_true rfl) (g := (mkF m 32 #[vi p0, vi p1, vi p2, vi p3, vi 1, vi 1, vr b1, .unset, .unset, .unset, .unset, .unset] [(.int (own_c0 p2)), z0, (.ref b1)])) rfl rfl (hb hby at_32)
 rw [show (nar .char (own_c0 p2)) = (own_c0 p2) from (own_c2c (own_c0a p2) (own_c0b p2))] at V2
 have gg3 := Nat.le_trans Z0 ge_b1
 have K2 := KL.ofW W2
 have Ck1 := own_chK K2 (naF (Ck0.2 _ (Safe.new ge_b1)) na0) Ah1.1
 have Ah2 := Ah1.trans Ck1.1
 replace V2 : Arv Z h2 b1 k1 .char 2 [(.int (own_c0 p2)), z0] z0 := V2
 have N2 := Fr.snoc X2 N0 gg3
 obtain ⟨T4, h4, X4, e4, W4, V4, st4⟩ := own_astC X2 hx hZ e2 V2 (j := 1) (by decide) 1 rfl (Nat.le_of_ble_eq_true rfl) (g := (mkF m 42 #[vi p0, vi p1, vi p2, vi p3, vi 1, vi 1, vr b1, .unset, .unset, .unset, .unset, .unset] [(.int (p3 &&& (255 : Int32))), (.int 1), (.ref b1)])) rfl rfl (hb hby at_42)
 rw [show (nar .char (p3 &&& (255 : Int32))) = (p3 &&& (255 : Int32)) from (i2c_mask _)] at V4
 have K4 := KL.ofW W4
 have sf5 := (Ck1.2 _ (Ck0.2 _ (Safe.new ge_b1)))
 have Ck2 := own_chK K4 (naF sf5 na0) Ah2.1
 have Ah3 := Ah2.trans Ck2.1
 replace V4 : Arv Z h4 b1 k1 .char 2 [(.int (own_c0 p2)), (.int (p3 &&& (255 : Int32)))] z0 := V4
 have N4 := Fr.snoc X4 N2 gg3
 obtain ⟨T6, h6, X6, e6, E6, A6, D6, -, st6⟩ := newO X4 hx hZ hown (w2 hw) (w3 hw) (w4 hw) e4 (g := (mkF m 43 #[vi p0, vi p1, vi p2, vi p3, vi 1, vi 1, vr b1, .unset, .unset, .unset, .unset, .unset] [])) rfl (hb hby at_43) (by decide) (by decide)
 obtain ⟨b6, g6⟩ : ∃ z, z = h4.size := ⟨_, rfl⟩
 rw [← g6] at A6 D6 st6
 have ge_b6 : h4.size ≤ b6 := Nat.le_of_eq g6.symm
 have K6 := KL.ofE E6
 have Ck3 := own_chK K6 na0 Ah3.1
 have Ah4 := Ah3.trans Ck3.1
 have F_b6_coder : Fd3 Z h6 b6 z0 := D6 (Or.inr (w28 hw)) (ty := .byte) (by decide)
 have F_b6_value : Fd4 Z h6 b6 .null := D6 (Or.inr (w30 hw)) (ty := (.array .byte)) (by decide)
 have f8 := (kArv K6 V4 na0)
 have f9 := (kOld K6 (kOld K4 (kOld K2 (kOld K1 O0 na0) (naG gg3 na0)) (naG gg3 na0)) na0)
 have sz_0_2 := (Nat.le_trans K1.1 K2.1)
 have sz_0_3 := (Nat.le_trans sz_0_2 K4.1)
 have gg10 := Nat.le_trans Z0 (Nat.le_trans sz_0_3 ge_b6)
 have sz_0_4 := (Nat.le_trans sz_0_3 K6.1)
 obtain ⟨_, T7, L7, X7, hQ7, st7⟩ := own_init X6 hx hZ rfl hown (w5 hw) (w6 hw) (w4 hw) (w7 hw) (by decide) (r7__init_ l Z a0 hw [] b6 b1 (own_c0 p2) (p3 &&& (255 : Int32)) k1 cs h6 n0 (Nat.le_trans Z0 sz_0_4) f8 sCS F_b6_coder A6 F_b6_value f9 hcs (own_c0b p2) (own_m255b _) gg10) e6 (W := 1) (by decide) (g := (mkF m 49 #[vi p0, vi p1, vi p2, vi p3, vi 1, vi 1, vr b1, .unset, .unset, .unset, .unset, .unset] [(.ref b1), (.ref b6), (.ref b6)])) rfl hml.symm (argsL := [(.ref b1)]) (rest := [(.ref b6)]) (lenOf pd_8 rfl) rfl rfl (own_wr rfl rfl) (hb hby at_49)
 obtain ⟨b1_6_4_7, k1_6_4_7, rfl, N7q, K7, Q7_0, Q7_1, Q7_2, Q7_3⟩ := hQ7
 have N7 := Fr.app N4 N7q
 have Ck4 := own_chK K7 (naF (Ck3.2 _ (Safe.new ge_b6)) (naF (Ck3.2 _ (Safe.new ge_b6)) na0)) Ah4.1
 have Ah5 := Ah4.trans Ck4.1
 obtain ⟨T12, h12, X12, e12, E12, A12, D12, -, st12⟩ := newO X7 hx hZ hown (w31 hw) (w32 hw) (w33 hw) rfl (g := (mkF m 54 #[vi p0, vi p1, vi p2, vi p3, vi 1, vi 1, vr b1, vr b6, .unset, .unset, .unset, .unset] [])) rfl (hb hby at_54) (by decide) (by decide)
 obtain ⟨b12, g12⟩ : ∃ z, z = T7.heap.size := ⟨_, rfl⟩
 rw [← g12] at A12 D12 st12
 have ge_b12 : T7.heap.size ≤ b12 := Nat.le_of_eq g12.symm
 have K12 := KL.ofE E12
 have Ck5 := own_chK K12 na0 Ah5.1
 have Ah6 := Ah5.trans Ck5.1
 have F_b12_singleton : Fd5 Z h12 b12 z0 := D12 (Or.inl (w39 hw)) (ty := .boolean) (by decide)
 have F_b12_initMethodRequired : Fd6 Z h12 b12 z0 := D12 (Or.inl (w41 hw)) (ty := .boolean) (by decide)
 have F_b12_destroyMethodRequired : Fd7 Z h12 b12 z0 := D12 (Or.inl (w43 hw)) (ty := .boolean) (by decide)
 have F_b12_dependsOn : Fd8 Z h12 b12 .null := D12 (Or.inr (w69 hw)) (ty := (.object "java/util/List")) (by decide)
 have F_b12_autowireCandidate : Fd9 Z h12 b12 z0 := D12 (Or.inl (w71 hw)) (ty := .boolean) (by decide)
 have F_b12_autowireMode : Fd10 Z h12 b12 .null := D12 (Or.inl (w76 hw)) (ty := (.object "com/example/graft_container/graftcontainer/BeanDefinition$Autowire")) (by decide)
 have F_b12_qualifiers : Fd11 Z h12 b12 .null := D12 (Or.inr (w104 hw)) (ty := (.object "java/util/Map")) (by decide)
 have F_b12_propertyValues : Fd12 Z h12 b12 .null := D12 (Or.inr (w106 hw)) (ty := (.object "java/util/List")) (by decide)
 have F_b12_constructorArguments : Fd13 Z h12 b12 .null := D12 (Or.inr (w108 hw)) (ty := (.object "java/util/List")) (by decide)
 have F_b12_dependsOnView : Fd14 Z h12 b12 .null := D12 (Or.inr (w153 hw)) (ty := (.object "java/util/List")) (by decide)
 have F_b12_qualifiersView : Fd15 Z h12 b12 .null := D12 (Or.inr (w174 hw)) (ty := (.object "java/util/Map")) (by decide)
 have F_b12_propertyValuesView : Fd16 Z h12 b12 .null := D12 (Or.inr (w176 hw)) (ty := (.object "java/util/List")) (by decide)
 have F_b12_constructorArgumentsView : Fd17 Z h12 b12 .null := D12 (Or.inr (w178 hw)) (ty := (.object "java/util/List")) (by decide)
 have F_b12_changeListeners : Fd18 Z h12 b12 .null := D12 (Or.inl (w186 hw)) (ty := (.object "java/util/List")) (by decide)
 have F_b12_outers : Fd19 Z h12 b12 .null := D12 (Or.inl (w188 hw)) (ty := (.object "java/util/List")) (by decide)
 have F_b12_frozen : Fd20 Z h12 b12 z0 := D12 (Or.inl (w203 hw)) (ty := .boolean) (by decide)
 have F_b12_parentName : Fd21 Z h12 b12 .null := D12 (Or.inl (w310 hw)) (ty := (.object "java/lang/String")) (by decide)
 have F_b12_scope : Fd22 Z h12 b12 .null := D12 (Or.inl (w322 hw)) (ty := (.object "java/lang/String")) (by decide)
 have sz_0_5 := (Nat.le_trans sz_0_4 K7.1)
 have gg14 := Nat.le_trans Z0 (Nat.le_trans sz_0_5 ge_b12)
 have f15 := (kOld K12 (kOld K7 f9 (naG gg10 (naG gg10 na0))) na0)
 have sz_0_6 := (Nat.le_trans sz_0_5 K12.1)
 obtain ⟨_, T13, L13, X13, hQ13, st13⟩ := own_init X12 hx hZ rfl hown (w34 hw) (w35 hw) (w33 hw) (w36 hw) (by decide) (r12__init_ l Z a0 hw [] b12 st_DC st_NO m_AL m_UL m_UR m_LM m_UM st_EL h12 n0 (Nat.le_trans Z0 sz_0_6) F_b12_singleton A12 gg14 F_b12_initMethodRequired F_b12_destroyMethodRequired S_DEFAULTCAPACITY_EMPTY_ELEMENTDATA f15 F_b12_dependsOn F_b12_autowireCandidate S_NO F_b12_autowireMode F_b12_qualifiers F_b12_propertyValues F_b12_constructorArguments M_java_util_ArrayList M_java_util_Collections_UnmodifiableList M_java_util_Collections_UnmodifiableRandomAccessList F_b12_dependsOnView M_java_util_LinkedHashMap M_java_util_Collections_UnmodifiableMap F_b12_qualifiersView F_b12_propertyValuesView F_b12_constructorArgumentsView S_EMPTY_LIST F_b12_changeListeners F_b12_outers) e12 (W := 1) (by decide) (g := (mkF m 58 #[vi p0, vi p1, vi p2, vi p3, vi 1, vi 1, vr b1, vr b6, .unset, .unset, .unset, .unset] [(.ref b12), (.ref b12)])) rfl hml.symm (argsL := []) (rest := [(.ref b12)]) (lenOf pd_9 rfl) rfl rfl (own_wr rfl rfl) (hb hby at_58)
 obtain ⟨b9_13, b27_13, b34_13, b42_13, r_55_13, r_64_13, r_71_13, r_78_13, rfl, N13q, K13, Q13_0, Q13_1, Q13_2, Q13_3, Q13_4, Q13_5, Q13_6, Q13_7, Q13_8, Q13_9, Q13_10, Q13_11, Q13_12, Q13_13, Q13_14, Q13_15, Q13_16, Q13_17, Q13_18, Q13_19, Q13_20, Q13_21, Q13_22⟩ := hQ13
 have N13 := Fr.app N7 N13q
 have Ck6 := own_chK K13 (naFM 15 rfl (Safe.exa hZ.alike A12 (by decide) (by decide)) na0) Ah6.1
 have Ah7 := Ah6.trans Ck6.1
 have f17 := (kExa K13 A12)
 have f18 := (kFld K13 F_b12_frozen (nwf_2 hw b12))
 have f19 := (kExa K13 (kExa K12 (kExa K7 (kExa K6 (kExa K4 (kExa K2 (kExa K1 E_st_EL)))))))
 have lt_st_EL : st_EL < h0.size := Exa.lt E_st_EL
 have ne20 := lt_ne lt_st_EL ge_b1
 have ne21 := lt_ne (Nat.lt_of_lt_of_le lt_st_EL sz_0_3) ge_b6
 have ne22 := lt_ne (Nat.lt_of_lt_of_le lt_st_EL sz_0_5) ge_b12
 have f23 := (kFld K13 (kFld K12 (kFld K7 (kFld K6 (kFld K4 (kFld K2 (kFld K1 F_st_EL_elements nw0) (nwL ne20 nw0)) (nwL ne20 nw0)) nw0) (nwL ne21 (nwL ne21 nw0))) nw0) (nwM 15 rfl ne22 nw0))
 have lt_el_EL : el_EL < h0.size := Arv.lt V_el_EL
 have ne24 := lt_ne lt_el_EL ge_b1
 have ne25 := lt_ne (Nat.lt_of_lt_of_le lt_el_EL sz_0_3) ge_b6
 have ne26 := lt_ne (Nat.lt_of_lt_of_le lt_el_EL sz_0_5) ge_b12
 have f27 := (kArv K13 (kArv K12 (kArv K7 (kArv K6 (kArv K4 (kArv K2 (kArv K1 V_el_EL na0) (naN (Ne.symm ne24) na0)) (naN (Ne.symm ne24) na0)) na0) (naN (Ne.symm ne25) (naN (Ne.symm ne25) na0))) na0) (naNM 15 rfl (Ne.symm ne26) na0))
 have f28 := (kExa K13 (kExa K12 (kExa K7 A6)))
 have lt_b6 : b6 < h6.size := Exa.lt A6
 have ne29 := lt_ne (Nat.lt_of_lt_of_le lt_b6 K7.1) ge_b12
 have f30 := (kFld K13 (kFld K12 Q7_1 nw0) (nwM 15 rfl ne29 nw0))
 have f31 := (kFld K13 (kFld K12 Q7_2 nw0) (nwM 15 rfl ne29 nw0))
 have lt_b1_6_4_7 : b1_6_4_7 < T7.heap.size := Arv.lt Q7_3
 have ne32 := lt_ne lt_b1_6_4_7 ge_b12
 have f33 := (kArv K13 (kArv K12 Q7_3 na0) (naNM 15 rfl (Ne.symm ne32) na0))
 have f34 := (kExa K13 (kExa K12 (kExa K7 (kExa K6 (kExa K4 (kExa K2 (kExa K1 E_st_CD)))))))
 have lt_st_A : st_A < h0.size := Arv.lt V_st_A
 have ne35 := lt_ne lt_st_A ge_b1
 have ne36 := lt_ne (Nat.lt_of_lt_of_le lt_st_A sz_0_3) ge_b6
 have ne37 := lt_ne (Nat.lt_of_lt_of_le lt_st_A sz_0_5) ge_b12
 have f38 := (kArv K13 (kArv K12 (kArv K7 (kArv K6 (kArv K4 (kArv K2 (kArv K1 V_st_A na0) (naN (Ne.symm ne35) na0)) (naN (Ne.symm ne35) na0)) na0) (naN (Ne.symm ne36) (naN (Ne.symm ne36) na0))) na0) (naNM 15 rfl (Ne.symm ne37) na0))
 have f39 := (kOld K13 f15 (naGM 15 rfl gg14 na0))
 have f40 := (kFld K13 F_b12_parentName (nwf_1 hw b12))
 have f41 := (kFld K13 F_b12_scope (nwf_0 hw b12))
 have sz_0_7 := (Nat.le_trans sz_0_6 K13.1)
 obtain ⟨_, T16, L16, X16, hS16, hk16, hZ16, hown16, hQ16, hC16, st16⟩ := own_Hvirtual X13 hx hZ hown (w189 hw) (w190 hw) (nfS hZ (w192 hw)) (w192 hw) (w191 hw) (w33 hw) (w193 hw) (by decide) (r21_setParentName l Z a0 hw [] b12 b6 st_EL el_EL k_el_EL cs b1_6_4_7 ((own_c0 p2).toInt8.toInt32) ((p3 &&& (255 : Int32)).toInt8.toInt32) k1_6_4_7 st_CD st_A tA k_st_A T13.heap n0 (Nat.le_trans Z0 sz_0_7) f17 f18 Q13_22 f19 f23 f27 Q13_21 f28 sCS f30 f31 f33 S_instance f34 S_A f38 f39 hcs (own_nsp p2 (by decide)) (own_nsp p2 (by decide)) (own_nws p2 hA) f40 gg14 f41 Q13_8) rfl f17 (W := 0) (by decide) (g := (mkF m 79 #[vi p0, vi p1, vi p2, vi p3, vi 1, vi 1, vr b1, vr b6, vr b12, .unset, .unset, .unset] [(.ref b6), (.ref b12)])) rfl hml.symm (argsL := [(.ref b6)]) (rest := []) (lenOf pd_25 rfl) rfl rfl (own_wr rfl rfl) (hb hby at_79) hS0 (Nat.le_trans hk0 sz_0_7) (own_EW hw) Ah7.1 sf0
 obtain ⟨rfl, N16q, K16, Q16_0, Q16_1⟩ := hQ16
 have N16 := Fr.app N13 N16q
 have Ah8 := Ah7.trans hC16
 obtain ⟨c42, T42, h42, k42, b42, kb42, X42, e42, E42, hS42, hk42, hZ42, hown42, Ex42, Fc42, Fv42, Ar42, lta42, ltb42, hC42, Lt42, hne42, st42⟩ := ldcCH X16 hx hZ16 hown16 (w329 hw) (own_wS hw) rfl hS16 hk16 (own_EW hw) (by decide) Ah8.1 (vs := [(.int 115), (.int 105), (.int 110), (.int 103), (.int 108), (.int 101), (.int 116), (.int 111), (.int 110)]) (z := 9) ⟨by decide, rfl⟩ (by decide) rfl (g := (mkF m 102 #[vi p0, vi p1, vi p2, vi p3, vi 1, vi 1, vr b1, vr b6, vr b12, .unset, .unset, .unset] [(.ref b12)])) rfl (hb hby at_102) (n := 36) (by decide) (by decide) (by decide) (by decide)
 have K42 := KL.ofE E42
 have Ah9 := Ah8.trans hC42
 have f44 := (kExa K42 (kExa K16 f17))
 have f45 := (kFld K42 (kFld K16 f18 (nwR (sn_281 hw) (nwR (sn_280 hw) nw0))) nw0)
 have f46 := (kFld K42 (kFld K16 Q13_22 (nwR (sn_282 hw) (nwR (sn_117 hw) nw0))) nw0)
 have f47 := (kExa K42 (kExa K16 f19))
 have f48 := (kFld K42 (kFld K16 f23 (nwL ne22 (nwL ne22 nw0))) nw0)
 have f49 := (kArv K42 (kArv K16 f27 (naN (Ne.symm ne26) (naN (Ne.symm ne26) na0))) na0)
 have f50 := (kFld K42 (kFld K16 Q13_21 (nwR (sn_283 hw) (nwR (sn_104 hw) nw0))) nw0)
 have f51 := (kOld K42 (kOld K16 f39 (naG gg14 (naG gg14 na0))) na0)
 have f52 := (kFld K42 (kFld K16 f41 (nwR (sn_264 hw) (nwR (sn_236 hw) nw0))) nw0)
 have f53 := (kFld K42 Q16_1 nw0)
 have sz_0_8 := (Nat.le_trans sz_0_7 K16.1)
 have sz_0_9 := (Nat.le_trans sz_0_8 K42.1)
 obtain ⟨_, T43, L43, X43, hS43, hk43, hZ43, hown43, hQ43, hC43, st43⟩ := own_Hvirtual X42 hx hZ42 hown42 (w330 hw) (w331 hw) (nfS hZ42 (w333 hw)) (w333 hw) (w332 hw) (w33 hw) (w334 hw) (by decide) (r48_setScope l Z a0 hw [] b12 c42 st_EL el_EL k_el_EL cs b42 kb42 h42 n0 (Nat.le_trans Z0 sz_0_9) f44 f45 f46 f47 f48 f49 f50 Ex42 sCS Fc42 Fv42 Ar42 hcs f51 f52 gg14 f53) e42 f44 (W := 0) (by decide) (g := (mkF m 104 #[vi p0, vi p1, vi p2, vi p3, vi 1, vi 1, vr b1, vr b6, vr b12, .unset, .unset, .unset] [(.ref c42), (.ref b12)])) rfl hml.symm (argsL := [(.ref c42)]) (rest := []) (lenOf pd_25 rfl) rfl rfl (own_wr rfl rfl) (hb hby at_104) hS42 hk42 (own_EW hw) Ah9.1 sf0
 obtain ⟨c20_43, b20_43, kb20_43, rfl, N43q, K43, Q43_0, Q43_1, Q43_2, Q43_3, Q43_4, Q43_5, Q43_6, Q43_7⟩ := hQ43
 have N43 := Fr.app N16 N43q
 have Ah10 := Ah9.trans hC43
 have sz_0_10 := (Nat.le_trans sz_0_9 K43.1)
 have f55 := (kExa K43 f44)
 obtain ⟨_, T54, L54, X54, hQ54, st54⟩ := own_virtual X43 hx hZ43 hown43 (w328 hw) (w317 hw) (nfS hZ43 (w319 hw)) (w319 hw) (w318 hw) (w33 hw) (w320 hw) (by decide) (r47_getScope l Z a0 hw [] b12 c20_43 T43.heap n0 (Nat.le_trans Z0 sz_0_10) Q43_2) rfl f55 (W := 0) (by decide) (g := (mkF m 157 #[vi p0, vi p1, vi p2, vi p3, vi 1, vi 1, vr b1, vr b6, vr b12, vi 1, .unset, .unset] [(.ref b12)])) rfl hml.symm (argsL := []) (rest := []) (lenOf pd_13 rfl) rfl rfl (own_wr rfl rfl) (hb hby at_157)
 obtain ⟨rfl, N54q, e54⟩ := hQ54
 have N54 := Fr.app N43 N54q
 obtain ⟨c56, T56, h56, k56, b56, kb56, X56, e56, E56, hS56, hk56, hZ56, hown56, Ex56, Fc56, Fv56, Ar56, lta56, ltb56, hC56, Lt56, hne56, st56⟩ := ldcCH X54 hx hZ43 hown43 (w329 hw) (own_wS hw) e54 hS43 hk43 (own_EW hw) (by decide) Ah10.1 (vs := [(.int 115), (.int 105), (.int 110), (.int 103), (.int 108), (.int 101), (.int 116), (.int 111), (.int 110)]) (z := 9) ⟨by decide, rfl⟩ (by decide) rfl (g := (mkF m 168 #[vi p0, vi p1, vi p2, vi p3, vi 1, vi 1, vr b1, vr b6, vr b12, vi 1, vr c20_43, .unset] [])) rfl (hb hby at_168) (n := 36) (by decide) (by decide) (by decide) (by decide)
 have K56 := KL.ofE E56
 have Ah11 := Ah10.trans hC56
 have f58 := (kExa K56 Q43_4)
 have f59 := (kOld K56 (kOld K43 f51 (naG gg14 (naG gg14 na0))) na0)
 have f60 := (kFld K56 Q43_5 nw0)
 have f61 := (kFld K56 Q43_6 nw0)
 have f62 := (kArv K56 Q43_7 na0)
 have sz_0_11 := (Nat.le_trans sz_0_10 K56.1)
 obtain ⟨_, T57, L57, X57, hQ57, st57⟩ := own_virtual X56 hx hZ56 hown56 (w335 hw) (w324 hw) (nfS hZ56 (w326 hw)) (w326 hw) (w325 hw) (w4 hw) (w327 hw) (by decide) (r_eqs l Z a0 hw [] c56 c20_43 b56 b20_43 cs kb56 kb20_43 h56 n0 (Nat.le_trans Z0 sz_0_11) hcs f58 sCS f59 Fc56 f60 Fv56 f61 Ar56 f62) e56 Ex56 (W := 0) (by decide) (g := (mkF m 228 #[vi p0, vi p1, vi p2, vi p3, vi 1, vi 1, vr b1, vr b6, vr b12, vi 1, vr c20_43, vr c56] [(.ref c20_43), (.ref c56)])) rfl hml.symm (argsL := [(.ref c20_43)]) (rest := []) (lenOf pd_14 rfl) rfl rfl (own_wr rfl rfl) (hb hby at_228)
 obtain ⟨rfl, N57q, e57⟩ := hQ57
 have N57 := Fr.app N54 N57q
 refine ⟨T57, _, some (.int 1), _, _, X57, hS56, (by rw [e57]; exact hk56), (fun h => by cases h <;> rfl), ?_, (by rw [e57]; exact Ah11), hZ56, fun fs hr => ?_⟩
 · show Q_law n0 _ _
   exact ⟨rfl, N57⟩
 refine t_iloadN 1 X0.here hx hby at_0 rfl rfl ?_
 refine X0.ldcInt hx hown (mvT hZ (w0 hw)) (g := (mkF m 1 #[vi p0, vi p1, vi p2, vi p3, .unset, .unset, .unset, .unset, .unset, .unset, .unset, .unset] [(.int p0)])) rfl (hb hby at_1) _ ?_
 refine t_iand 4 X0.here hx hby at_3 rfl rfl ?_
 refine t_iconst 5 (r := 3) X0.here hx hby at_4 (by decide) rfl ?_
 refine t_irem 6 (r := 1) X0.here hx hby at_5 (by decide) hs rfl ?_
 refine t_istore (pc' := 8) (L' := #[vi p0, vi p1, vi p2, vi p3, vi 1, .unset, .unset, .unset, .unset, .unset, .unset, .unset]) X0.here hx hby at_6 rfl rfl ?_
 refine t_iloadN 9 X0.here hx hby at_8 rfl rfl ?_
 refine t_iconst 10 (r := 3) X0.here hx hby at_9 (by decide) rfl ?_
 refine t_iand 11 (r := 1) X0.here hx hby at_10 hpm rfl ?_
 refine t_istore (pc' := 13) (L' := #[vi p0, vi p1, vi p2, vi p3, vi 1, vi 1, .unset, .unset, .unset, .unset, .unset, .unset]) X0.here hx hby at_11 rfl rfl ?_
 refine t_iconst 14 (r := 2) X0.here hx hby at_13 (by decide) rfl ?_
 refine st1 _ ?_
 refine t_astore (pc' := 18) (L' := #[vi p0, vi p1, vi p2, vi p3, vi 1, vi 1, vr b1, .unset, .unset, .unset, .unset, .unset]) X1.here hx hby at_16 rfl rfl rfl ?_
 refine t_aload 20 X1.here hx hby at_18 rfl rfl rfl ?_
 refine t_iconst 21 (r := 0) X1.here hx hby at_20 (by decide) rfl ?_
 refine t_bipush 23 (r := 33) X1.here hx hby at_21 (by decide) rfl ?_
 refine t_iloadN 24 X1.here hx hby at_23 rfl rfl ?_
 refine X1.ldcInt hx hown (mvT hZ (w0 hw)) (g := (mkF m 24 #[vi p0, vi p1, vi p2, vi p3, vi 1, vi 1, vr b1, .unset, .unset, .unset, .unset, .unset] [(.int p2), (.int 33), z0, (.ref b1)])) rfl (hb hby at_24) _ ?_
 refine t_iand 27 X1.here hx hby at_26 rfl rfl ?_
 refine t_bipush 29 (r := 94) X1.here hx hby at_27 (by decide) rfl ?_
 refine t_irem 30 X1.here hx hby at_29 (by decide) rfl rfl ?_
 refine t_iadd 31 (r := (own_c0 p2)) X1.here hx hby at_30 (Eq.refl (own_c0 p2)) rfl ?_
 refine t_i2c 32 (r := (own_c0 p2)) X1.here hx hby at_31 (own_c2c (own_c0a p2) (own_c0b p2)) rfl ?_
 refine st2 _ ?_
 refine t_aload 35 X2.here hx hby at_33 rfl rfl rfl ?_
 refine t_iconst 36 (r := 1) X2.here hx hby at_35 (by decide) rfl ?_
 refine t_iloadN 37 X2.here hx hby at_36 rfl rfl ?_
 refine t_sipush 40 (r := 255) X2.here hx hby at_37 (by decide) rfl ?_
 refine t_iand 41 X2.here hx hby at_40 rfl rfl ?_
 refine t_i2c 42 (r := (p3 &&& (255 : Int32))) X2.here hx hby at_41 (i2c_mask _) rfl ?_
 refine st4 _ ?_
 refine st6 _ ?_
 refine t_dup 47 X6.here hx hby at_46 rfl rfl ?_
 refine t_aload 49 X6.here hx hby at_47 rfl rfl rfl ?_
 refine st7 _ ?_
 refine t_astore (pc' := 54) (L' := #[vi p0, vi p1, vi p2, vi p3, vi 1, vi 1, vr b1, vr b6, .unset, .unset, .unset, .unset]) X7.here hx hby at_52 rfl rfl rfl ?_
 refine st12 _ ?_
 refine t_dup 58 X12.here hx hby at_57 rfl rfl ?_
 refine st13 _ ?_
 refine t_astore (pc' := 63) (L' := #[vi p0, vi p1, vi p2, vi p3, vi 1, vi 1, vr b1, vr b6, vr b12, .unset, .unset, .unset]) X13.here hx hby at_61 rfl rfl rfl ?_
 refine t_iload 65 X13.here hx hby at_63 rfl rfl ?_
 refine t_iconst 66 (r := 1) X13.here hx hby at_65 (by decide) rfl ?_
 refine t_icmpYes (pc := 66) 75 X13.here hx hby at_66 (by decide) (by decide) (by decide) ?_
 refine t_aload 77 X13.here hx hby at_75 rfl rfl rfl ?_
 refine t_aload 79 X13.here hx hby at_77 rfl rfl rfl ?_
 refine st16 _ ?_
 refine t_iload 84 X16.here hx hby at_82 rfl rfl ?_
 refine t_iconst 85 (r := 2) X16.here hx hby at_84 (by decide) rfl ?_
 refine t_icmpYes (pc := 85) 94 X16.here hx hby at_85 (by decide) (by decide) (by decide) ?_
 refine t_iload 96 X16.here hx hby at_94 rfl rfl ?_
 refine t_iconst 97 (r := 1) X16.here hx hby at_96 (by decide) rfl ?_
 refine t_icmpNo 100 X16.here hx hby at_97 (by decide) rfl ?_
 refine t_aload 102 X16.here hx hby at_100 rfl rfl rfl ?_
 refine st42 _ ?_
 refine st43 _ ?_
 refine t_goto (pc := 107) 123 X43.here hx hby at_107 (by decide) (by decide) ?_
 refine t_iload 125 X43.here hx hby at_123 rfl rfl ?_
 refine t_iconst 126 (r := 3) X43.here hx hby at_125 (by decide) rfl ?_
 refine t_icmpYes (pc := 126) 136 X43.here hx hby at_126 (by decide) (by decide) (by decide) ?_
 refine t_iload 138 X43.here hx hby at_136 rfl rfl ?_
 refine t_iconst 139 (r := 1) X43.here hx hby at_138 (by decide) rfl ?_
 refine t_icmpYes (pc := 139) 148 X43.here hx hby at_139 (by decide) (by decide) (by decide) ?_
 refine t_iconst 149 (r := 1) X43.here hx hby at_148 (by decide) rfl ?_
 refine t_goto (pc := 149) 153 X43.here hx hby at_149 (by decide) (by decide) ?_
 refine t_istore (pc' := 155) (L' := #[vi p0, vi p1, vi p2, vi p3, vi 1, vi 1, vr b1, vr b6, vr b12, vi 1, .unset, .unset]) X43.here hx hby at_153 rfl rfl ?_
 refine t_aload 157 X43.here hx hby at_155 rfl rfl rfl ?_
 refine st54 _ ?_
 refine t_astore (pc' := 162) (L' := #[vi p0, vi p1, vi p2, vi p3, vi 1, vi 1, vr b1, vr b6, vr b12, vi 1, vr c20_43, .unset]) X54.here hx hby at_160 rfl rfl rfl ?_
 refine t_iload 164 X54.here hx hby at_162 rfl rfl ?_
 refine t_iconst 165 (r := 1) X54.here hx hby at_164 (by decide) rfl ?_
 refine t_icmpNo 168 X54.here hx hby at_165 (by decide) rfl ?_
 refine st56 _ ?_
 refine t_astore (pc' := 172) (L' := #[vi p0, vi p1, vi p2, vi p3, vi 1, vi 1, vr b1, vr b6, vr b12, vi 1, vr c20_43, vr c56]) X56.here hx hby at_170 rfl rfl rfl ?_
 refine t_goto (pc := 172) 203 X56.here hx hby at_172 (by decide) (by decide) ?_
 refine t_aload 205 X56.here hx hby at_203 rfl rfl rfl ?_
 refine t_ifnonnullYes (pc := 205) 219 X56.here hx hby at_205 (by decide) (by decide) ?_
 refine t_aload 221 X56.here hx hby at_219 rfl rfl rfl ?_
 refine t_ifnullNo 224 X56.here hx hby at_221 rfl ?_
 refine t_aload 226 X56.here hx hby at_224 rfl rfl rfl ?_
 refine t_aload 228 X56.here hx hby at_226 rfl rfl rfl ?_
 refine st57 _ ?_
 refine t_ifNo 234 X57.here hx hby at_231 (by decide) rfl ?_
 refine t_iconst 235 (r := 1) X57.here hx hby at_234 (by decide) rfl ?_
 refine t_goto (pc := 235) 239 X57.here hx hby at_235 (by decide) (by decide) ?_
 exact retN X57 hx (t := .boolean) hret (by simp) (hb hby at_239) hr
theorem law_12 (l : Launch) (Z : State) (a0 : Array Value) (hw : HW Z a0) (ws : List Jvm.Cond) (p0 p1 p2 p3 cs : Int32) (st_NO st_DC st_EL el_EL st_CD st_A : Addr) (tA : List Value) (m_AL m_UL m_UR m_LM m_UM : Addr) (k_el_EL k_st_A : ClassId) (h0 : Heap) (n0 : Nat) (Z0 : n0 ≤ h0.size) (hcs : ¬ (cs = (0 : Int32))) (hA : TabA tA) (hs : ((p0 &&& (2147483647 : Int32)) - ((p0 &&& (2147483647 : Int32)) / (3 : Int32)) * (3 : Int32)) = (1 : Int32)) (hpm : (p1 &&& (3 : Int32)) = (2 : Int32)) (sCS : SCS Z cs) (O0 : Old Z n0 h0) (S_DEFAULTCAPACITY_EMPTY_ELEMENTDATA : Sa0 Z (.ref st_DC)) (S_NO : Sa2 Z (.ref st_NO)) (M_java_util_ArrayList : OMir Z "java/util/ArrayList" m_AL) (M_java_util_Collections_UnmodifiableList : OMir Z "java/util/Collections$UnmodifiableList" m_UL) (M_java_util_Collections_UnmodifiableRandomAccessList : OMir Z "java/util/Collections$UnmodifiableRandomAccessList" m_UR) (M_java_util_LinkedHashMap : OMir Z "java/util/LinkedHashMap" m_LM) (M_java_util_Collections_UnmodifiableMap : OMir Z "java/util/Collections$UnmodifiableMap" m_UM) (S_EMPTY_LIST : Sa1 Z (.ref st_EL)) (E_st_EL : Ex6 Z h0 st_EL) (F_st_EL_elements : Fd28 Z h0 st_EL (.ref el_EL)) (V_el_EL : Arv Z h0 el_EL k_el_EL (.object "java/lang/Object") (0 : Int32) [] .null) (S_instance : Sa4 Z (.ref st_CD)) (E_st_CD : Ex8 Z h0 st_CD) (S_A : Sa3 Z (.ref st_A)) (V_st_A : Arv Z h0 st_A k_st_A .int 256 tA z0) :
    LawM l Z ws p0 p1 p2 p3 h0 n0 := by
 refine own_bodyH (k := 40) (n := 811) (y := x) (Q := fun v _ L => Q_law n0 v L) (own_EW hw) (plainFor_of_name pn_BeanDefinitionGetScopePinLaw149) (ef_law p0 p1 p2 p3) (by decide) (by decide) ?_
 intro p e s m below meth c s₁ hx hby hml hown hnm hret hZ e0 hS0 hk0 X0 hC0 hSF0
 have N0 := Fr.nil n0
 obtain ⟨T1, h1, k1, X1, e1, E1, A1, st1⟩ := newP (aty := .char) X0 hx hZ (w1 hw) e0 (g := (mkF m 14 #[vi p0, vi p1, vi p2, vi p3, vi 1, vi 2, .unset, .unset, .unset, .unset, .unset, .unset] [(.int 2)])) rfl (hb hby at_14) rfl (by decide) (cap := 2) (by decide) (by decide) (by decide) (by decide)
 obtain ⟨b1, g1⟩ : ∃ z, z = h0.size := ⟨_, rfl⟩
 rw [← g1] at A1 st1
 have ge_b1 : h0.size ≤ b1 := Nat.le_of_eq g1.symm
 have K1 := KL.ofE E1
 have Ck0 := own_chK K1 na0 (CHr.refl hC0).1
 have Ah1 := (CHr.refl hC0).trans Ck0.1
 have V1 : Arv Z h1 b1 k1 .char 2 [z0, z0] z0 := (Arv.new A1 (by decide)).pad (pad_rep [] z0 2)
 obtain ⟨T2, h2, X2, e2, W2, V2, st2⟩ := own_astC X1 hx hZ e1 V1 (j := 0) (by decide) 0 rfl (Nat.le_of_ble_eq_true rfl) (g := (mkF m 32 #[vi p0, vi p1, vi p2, vi p3, vi 1, vi 2, vr b1, .unset, .unset, .unset, .unset, .unset] [(.int (own_c0 p2)), z0, (.ref b1)])) rfl rfl (hb hby at_32)
 rw [show (nar .char (own_c0 p2)) = (own_c0 p2) from (own_c2c (own_c0a p2) (own_c0b p2))] at V2
 have gg3 := Nat.le_trans Z0 ge_b1
 have K2 := KL.ofW W2
 have Ck1 := own_chK K2 (naF (Ck0.2 _ (Safe.new ge_b1)) na0) Ah1.1
 have Ah2 := Ah1.trans Ck1.1
 replace V2 : Arv Z h2 b1 k1 .char 2 [(.int (own_c0 p2)), z0] z0 := V2
 have N2 := Fr.snoc X2 N0 gg3
 obtain ⟨T4, h4, X4, e4, W4, V4, st4⟩ := own_astC X2 hx hZ e2 V2 (j := 1) (by decide) 1 rfl (Nat.le_of_ble_eq_true rfl) (g := (mkF m 42 #[vi p0, vi p1, vi p2, vi p3, vi 1, vi 2, vr b1, .unset, .unset, .unset, .unset, .unset] [(.int (p3 &&& (255 : Int32))), (.int 1), (.ref b1)])) rfl rfl (hb hby at_42)
 rw [show (nar .char (p3 &&& (255 : Int32))) = (p3 &&& (255 : Int32)) from (i2c_mask _)] at V4
 have K4 := KL.ofW W4
 have sf5 := (Ck1.2 _ (Ck0.2 _ (Safe.new ge_b1)))
 have Ck2 := own_chK K4 (naF sf5 na0) Ah2.1
 have Ah3 := Ah2.trans Ck2.1
 replace V4 : Arv Z h4 b1 k1 .char 2 [(.int (own_c0 p2)), (.int (p3 &&& (255 : Int32)))] z0 := V4
 have N4 := Fr.snoc X4 N2 gg3
 obtain ⟨T6, h6, X6, e6, E6, A6, D6, -, st6⟩ := newO X4 hx hZ hown (w2 hw) (w3 hw) (w4 hw) e4 (g := (mkF m 43 #[vi p0, vi p1, vi p2, vi p3, vi 1, vi 2, vr b1, .unset, .unset, .unset, .unset, .unset] [])) rfl (hb hby at_43) (by decide) (by decide)
 obtain ⟨b6, g6⟩ : ∃ z, z = h4.size := ⟨_, rfl⟩
 rw [← g6] at A6 D6 st6
 have ge_b6 : h4.size ≤ b6 := Nat.le_of_eq g6.symm
 have K6 := KL.ofE E6
 have Ck3 := own_chK K6 na0 Ah3.1
 have Ah4 := Ah3.trans Ck3.1
 have F_b6_coder : Fd3 Z h6 b6 z0 := D6 (Or.inr (w28 hw)) (ty := .byte) (by decide)
 have F_b6_value : Fd4 Z h6 b6 .null := D6 (Or.inr (w30 hw)) (ty := (.array .byte)) (by decide)
 have f8 := (kArv K6 V4 na0)
 have f9 := (kOld K6 (kOld K4 (kOld K2 (kOld K1 O0 na0) (naG gg3 na0)) (naG gg3 na0)) na0)
 have sz_0_2 := (Nat.le_trans K1.1 K2.1)
 have sz_0_3 := (Nat.le_trans sz_0_2 K4.1)
 have gg10 := Nat.le_trans Z0 (Nat.le_trans sz_0_3 ge_b6)
 have sz_0_4 := (Nat.le_trans sz_0_3 K6.1)
 obtain ⟨_, T7, L7, X7, hQ7, st7⟩ := own_init X6 hx hZ rfl hown (w5 hw) (w6 hw) (w4 hw) (w7 hw) (by decide) (r7__init_ l Z a0 hw [] b6 b1 (own_c0 p2) (p3 &&& (255 : Int32)) k1 cs h6 n0 (Nat.le_trans Z0 sz_0_4) f8 sCS F_b6_coder A6 F_b6_value f9 hcs (own_c0b p2) (own_m255b _) gg10) e6 (W := 1) (by decide) (g := (mkF m 49 #[vi p0, vi p1, vi p2, vi p3, vi 1, vi 2, vr b1, .unset, .unset, .unset, .unset, .unset] [(.ref b1), (.ref b6), (.ref b6)])) rfl hml.symm (argsL := [(.ref b1)]) (rest := [(.ref b6)]) (lenOf pd_8 rfl) rfl rfl (own_wr rfl rfl) (hb hby at_49)
 obtain ⟨b1_6_4_7, k1_6_4_7, rfl, N7q, K7, Q7_0, Q7_1, Q7_2, Q7_3⟩ := hQ7
 have N7 := Fr.app N4 N7q
 have Ck4 := own_chK K7 (naF (Ck3.2 _ (Safe.new ge_b6)) (naF (Ck3.2 _ (Safe.new ge_b6)) na0)) Ah4.1
 have Ah5 := Ah4.trans Ck4.1
 obtain ⟨T12, h12, X12, e12, E12, A12, D12, -, st12⟩ := newO X7 hx hZ hown (w31 hw) (w32 hw) (w33 hw) rfl (g := (mkF m 54 #[vi p0, vi p1, vi p2, vi p3, vi 1, vi 2, vr b1, vr b6, .unset, .unset, .unset, .unset] [])) rfl (hb hby at_54) (by decide) (by decide)
 obtain ⟨b12, g12⟩ : ∃ z, z = T7.heap.size := ⟨_, rfl⟩
 rw [← g12] at A12 D12 st12
 have ge_b12 : T7.heap.size ≤ b12 := Nat.le_of_eq g12.symm
 have K12 := KL.ofE E12
 have Ck5 := own_chK K12 na0 Ah5.1
 have Ah6 := Ah5.trans Ck5.1
 have F_b12_singleton : Fd5 Z h12 b12 z0 := D12 (Or.inl (w39 hw)) (ty := .boolean) (by decide)
 have F_b12_initMethodRequired : Fd6 Z h12 b12 z0 := D12 (Or.inl (w41 hw)) (ty := .boolean) (by decide)
 have F_b12_destroyMethodRequired : Fd7 Z h12 b12 z0 := D12 (Or.inl (w43 hw)) (ty := .boolean) (by decide)
 have F_b12_dependsOn : Fd8 Z h12 b12 .null := D12 (Or.inr (w69 hw)) (ty := (.object "java/util/List")) (by decide)
 have F_b12_autowireCandidate : Fd9 Z h12 b12 z0 := D12 (Or.inl (w71 hw)) (ty := .boolean) (by decide)
 have F_b12_autowireMode : Fd10 Z h12 b12 .null := D12 (Or.inl (w76 hw)) (ty := (.object "com/example/graft_container/graftcontainer/BeanDefinition$Autowire")) (by decide)
 have F_b12_qualifiers : Fd11 Z h12 b12 .null := D12 (Or.inr (w104 hw)) (ty := (.object "java/util/Map")) (by decide)
 have F_b12_propertyValues : Fd12 Z h12 b12 .null := D12 (Or.inr (w106 hw)) (ty := (.object "java/util/List")) (by decide)
 have F_b12_constructorArguments : Fd13 Z h12 b12 .null := D12 (Or.inr (w108 hw)) (ty := (.object "java/util/List")) (by decide)
 have F_b12_dependsOnView : Fd14 Z h12 b12 .null := D12 (Or.inr (w153 hw)) (ty := (.object "java/util/List")) (by decide)
 have F_b12_qualifiersView : Fd15 Z h12 b12 .null := D12 (Or.inr (w174 hw)) (ty := (.object "java/util/Map")) (by decide)
 have F_b12_propertyValuesView : Fd16 Z h12 b12 .null := D12 (Or.inr (w176 hw)) (ty := (.object "java/util/List")) (by decide)
 have F_b12_constructorArgumentsView : Fd17 Z h12 b12 .null := D12 (Or.inr (w178 hw)) (ty := (.object "java/util/List")) (by decide)
 have F_b12_changeListeners : Fd18 Z h12 b12 .null := D12 (Or.inl (w186 hw)) (ty := (.object "java/util/List")) (by decide)
 have F_b12_outers : Fd19 Z h12 b12 .null := D12 (Or.inl (w188 hw)) (ty := (.object "java/util/List")) (by decide)
 have F_b12_frozen : Fd20 Z h12 b12 z0 := D12 (Or.inl (w203 hw)) (ty := .boolean) (by decide)
 have F_b12_parentName : Fd21 Z h12 b12 .null := D12 (Or.inl (w310 hw)) (ty := (.object "java/lang/String")) (by decide)
 have F_b12_scope : Fd22 Z h12 b12 .null := D12 (Or.inl (w322 hw)) (ty := (.object "java/lang/String")) (by decide)
 have sz_0_5 := (Nat.le_trans sz_0_4 K7.1)
 have gg14 := Nat.le_trans Z0 (Nat.le_trans sz_0_5 ge_b12)
 have f15 := (kOld K12 (kOld K7 f9 (naG gg10 (naG gg10 na0))) na0)
 have sz_0_6 := (Nat.le_trans sz_0_5 K12.1)
 obtain ⟨_, T13, L13, X13, hQ13, st13⟩ := own_init X12 hx hZ rfl hown (w34 hw) (w35 hw) (w33 hw) (w36 hw) (by decide) (r12__init_ l Z a0 hw [] b12 st_DC st_NO m_AL m_UL m_UR m_LM m_UM st_EL h12 n0 (Nat.le_trans Z0 sz_0_6) F_b12_singleton A12 gg14 F_b12_initMethodRequired F_b12_destroyMethodRequired S_DEFAULTCAPACITY_EMPTY_ELEMENTDATA f15 F_b12_dependsOn F_b12_autowireCandidate S_NO F_b12_autowireMode F_b12_qualifiers F_b12_propertyValues F_b12_constructorArguments M_java_util_ArrayList M_java_util_Collections_UnmodifiableList M_java_util_Collections_UnmodifiableRandomAccessList F_b12_dependsOnView M_java_util_LinkedHashMap M_java_util_Collections_UnmodifiableMap F_b12_qualifiersView F_b12_propertyValuesView F_b12_constructorArgumentsView S_EMPTY_LIST F_b12_changeListeners F_b12_outers) e12 (W := 1) (by decide) (g := (mkF m 58 #[vi p0, vi p1, vi p2, vi p3, vi 1, vi 2, vr b1, vr b6, .unset, .unset, .unset, .unset] [(.ref b12), (.ref b12)])) rfl hml.symm (argsL := []) (rest := [(.ref b12)]) (lenOf pd_9 rfl) rfl rfl (own_wr rfl rfl) (hb hby at_58)
 obtain ⟨b9_13, b27_13, b34_13, b42_13, r_55_13, r_64_13, r_71_13, r_78_13, rfl, N13q, K13, Q13_0, Q13_1, Q13_2, Q13_3, Q13_4, Q13_5, Q13_6, Q13_7, Q13_8, Q13_9, Q13_10, Q13_11, Q13_12, Q13_13, Q13_14, Q13_15, Q13_16, Q13_17, Q13_18, Q13_19, Q13_20, Q13_21, Q13_22⟩ := hQ13
 have N13 := Fr.app N7 N13q
 have Ck6 := own_chK K13 (naFM 15 rfl (Safe.exa hZ.alike A12 (by decide) (by decide)) na0) Ah6.1
 have Ah7 := Ah6.trans Ck6.1
 have f17 := (kExa K13 A12)
 have f18 := (kFld K13 F_b12_frozen (nwf_2 hw b12))
 have f19 := (kExa K13 (kExa K12 (kExa K7 (kExa K6 (kExa K4 (kExa K2 (kExa K1 E_st_EL)))))))
 have lt_st_EL : st_EL < h0.size := Exa.lt E_st_EL
 have ne20 := lt_ne lt_st_EL ge_b1
 have ne21 := lt_ne (Nat.lt_of_lt_of_le lt_st_EL sz_0_3) ge_b6
 have ne22 := lt_ne (Nat.lt_of_lt_of_le lt_st_EL sz_0_5) ge_b12
 have f23 := (kFld K13 (kFld K12 (kFld K7 (kFld K6 (kFld K4 (kFld K2 (kFld K1 F_st_EL_elements nw0) (nwL ne20 nw0)) (nwL ne20 nw0)) nw0) (nwL ne21 (nwL ne21 nw0))) nw0) (nwM 15 rfl ne22 nw0))
 have lt_el_EL : el_EL < h0.size := Arv.lt V_el_EL
 have ne24 := lt_ne lt_el_EL ge_b1
 have ne25 := lt_ne (Nat.lt_of_lt_of_le lt_el_EL sz_0_3) ge_b6
 have ne26 := lt_ne (Nat.lt_of_lt_of_le lt_el_EL sz_0_5) ge_b12
 have f27 := (kArv K13 (kArv K12 (kArv K7 (kArv K6 (kArv K4 (kArv K2 (kArv K1 V_el_EL na0) (naN (Ne.symm ne24) na0)) (naN (Ne.symm ne24) na0)) na0) (naN (Ne.symm ne25) (naN (Ne.symm ne25) na0))) na0) (naNM 15 rfl (Ne.symm ne26) na0))
 have f28 := (kExa K13 (kExa K12 (kExa K7 A6)))
 have lt_b6 : b6 < h6.size := Exa.lt A6
 have ne29 := lt_ne (Nat.lt_of_lt_of_le lt_b6 K7.1) ge_b12
 have f30 := (kFld K13 (kFld K12 Q7_1 nw0) (nwM 15 rfl ne29 nw0))
 have f31 := (kFld K13 (kFld K12 Q7_2 nw0) (nwM 15 rfl ne29 nw0))
 have lt_b1_6_4_7 : b1_6_4_7 < T7.heap.size := Arv.lt Q7_3
 have ne32 := lt_ne lt_b1_6_4_7 ge_b12
 have f33 := (kArv K13 (kArv K12 Q7_3 na0) (naNM 15 rfl (Ne.symm ne32) na0))
 have f34 := (kExa K13 (kExa K12 (kExa K7 (kExa K6 (kExa K4 (kExa K2 (kExa K1 E_st_CD)))))))
 have lt_st_A : st_A < h0.size := Arv.lt V_st_A
 have ne35 := lt_ne lt_st_A ge_b1
 have ne36 := lt_ne (Nat.lt_of_lt_of_le lt_st_A sz_0_3) ge_b6
 have ne37 := lt_ne (Nat.lt_of_lt_of_le lt_st_A sz_0_5) ge_b12
 have f38 := (kArv K13 (kArv K12 (kArv K7 (kArv K6 (kArv K4 (kArv K2 (kArv K1 V_st_A na0) (naN (Ne.symm ne35) na0)) (naN (Ne.symm ne35) na0)) na0) (naN (Ne.symm ne36) (naN (Ne.symm ne36) na0))) na0) (naNM 15 rfl (Ne.symm ne37) na0))
 have f39 := (kOld K13 f15 (naGM 15 rfl gg14 na0))
 have f40 := (kFld K13 F_b12_parentName (nwf_1 hw b12))
 have f41 := (kFld K13 F_b12_scope (nwf_0 hw b12))
 have sz_0_7 := (Nat.le_trans sz_0_6 K13.1)
 obtain ⟨_, T16, L16, X16, hS16, hk16, hZ16, hown16, hQ16, hC16, st16⟩ := own_Hvirtual X13 hx hZ hown (w189 hw) (w190 hw) (nfS hZ (w192 hw)) (w192 hw) (w191 hw) (w33 hw) (w193 hw) (by decide) (r21_setParentName l Z a0 hw [] b12 b6 st_EL el_EL k_el_EL cs b1_6_4_7 ((own_c0 p2).toInt8.toInt32) ((p3 &&& (255 : Int32)).toInt8.toInt32) k1_6_4_7 st_CD st_A tA k_st_A T13.heap n0 (Nat.le_trans Z0 sz_0_7) f17 f18 Q13_22 f19 f23 f27 Q13_21 f28 sCS f30 f31 f33 S_instance f34 S_A f38 f39 hcs (own_nsp p2 (by decide)) (own_nsp p2 (by decide)) (own_nws p2 hA) f40 gg14 f41 Q13_8) rfl f17 (W := 0) (by decide) (g := (mkF m 79 #[vi p0, vi p1, vi p2, vi p3, vi 1, vi 2, vr b1, vr b6, vr b12, .unset, .unset, .unset] [(.ref b6), (.ref b12)])) rfl hml.symm (argsL := [(.ref b6)]) (rest := []) (lenOf pd_25 rfl) rfl rfl (own_wr rfl rfl) (hb hby at_79) hS0 (Nat.le_trans hk0 sz_0_7) (own_EW hw) Ah7.1 sf0
 obtain ⟨rfl, N16q, K16, Q16_0, Q16_1⟩ := hQ16
 have N16 := Fr.app N13 N16q
 have Ah8 := Ah7.trans hC16
 have f43 := (kExa K16 f17)
 have f44 := (kFld K16 f18 (nwR (sn_281 hw) (nwR (sn_280 hw) nw0)))
 have f45 := (kFld K16 Q13_22 (nwR (sn_282 hw) (nwR (sn_117 hw) nw0)))
 have f46 := (kExa K16 f19)
 have f47 := (kFld K16 f23 (nwL ne22 (nwL ne22 nw0)))
 have f48 := (kArv K16 f27 (naN (Ne.symm ne26) (naN (Ne.symm ne26) na0)))
 have f49 := (kFld K16 Q13_21 (nwR (sn_283 hw) (nwR (sn_104 hw) nw0)))
 have f50 := (kFld K16 f41 (nwR (sn_264 hw) (nwR (sn_236 hw) nw0)))
 have f51 := (kOld K16 f39 (naG gg14 (naG gg14 na0)))
 have sz_0_8 := (Nat.le_trans sz_0_7 K16.1)
 obtain ⟨_, T42, L42, X42, hS42, hk42, hZ42, hown42, hQ42, hC42, st42⟩ := own_Hvirtual X16 hx hZ16 hown16 (w189 hw) (w190 hw) (nfS hZ16 (w192 hw)) (w192 hw) (w191 hw) (w33 hw) (w193 hw) (by decide) (r42_setParentName l Z a0 hw [] b12 st_EL el_EL k_el_EL b6 cs T16.heap n0 (Nat.le_trans Z0 sz_0_8) f43 f44 f45 f46 f47 f48 f49 Q16_0 gg14 f50 sCS hcs f51 Q16_1) rfl f43 (W := 0) (by decide) (g := (mkF m 91 #[vi p0, vi p1, vi p2, vi p3, vi 1, vi 2, vr b1, vr b6, vr b12, .unset, .unset, .unset] [.null, (.ref b12)])) rfl hml.symm (argsL := [.null]) (rest := []) (lenOf pd_25 rfl) rfl rfl (own_wr rfl rfl) (hb hby at_91) hS16 hk16 (own_EW hw) Ah8.1 sf0
 obtain ⟨rfl, N42q, K42, Q42_0, Q42_1⟩ := hQ42
 have N42 := Fr.app N16 N42q
 have Ah9 := Ah8.trans hC42
 obtain ⟨c52, T52, h52, k52, b52, kb52, X52, e52, E52, hS52, hk52, hZ52, hown52, Ex52, Fc52, Fv52, Ar52, lta52, ltb52, hC52, Lt52, hne52, st52⟩ := ldcCH X42 hx hZ42 hown42 (w329 hw) (own_wS hw) rfl hS42 hk42 (own_EW hw) (by decide) Ah9.1 (vs := [(.int 115), (.int 105), (.int 110), (.int 103), (.int 108), (.int 101), (.int 116), (.int 111), (.int 110)]) (z := 9) ⟨by decide, rfl⟩ (by decide) rfl (g := (mkF m 102 #[vi p0, vi p1, vi p2, vi p3, vi 1, vi 2, vr b1, vr b6, vr b12, .unset, .unset, .unset] [(.ref b12)])) rfl (hb hby at_102) (n := 36) (by decide) (by decide) (by decide) (by decide)
 have K52 := KL.ofE E52
 have Ah10 := Ah9.trans hC52
 have f54 := (kExa K52 (kExa K42 f43))
 have f55 := (kFld K52 (kFld K42 f44 (nwR (sn_281 hw) (nwR (sn_280 hw) nw0))) nw0)
 have f56 := (kFld K52 (kFld K42 f45 (nwR (sn_282 hw) (nwR (sn_117 hw) nw0))) nw0)
 have f57 := (kExa K52 (kExa K42 f46))
 have f58 := (kFld K52 (kFld K42 f47 (nwL ne22 (nwL ne22 nw0))) nw0)
 have f59 := (kArv K52 (kArv K42 f48 (naN (Ne.symm ne26) (naN (Ne.symm ne26) na0))) na0)
 have f60 := (kFld K52 (kFld K42 f49 (nwR (sn_283 hw) (nwR (sn_104 hw) nw0))) nw0)
 have f61 := (kOld K52 (kOld K42 f51 (naG gg14 (naG gg14 na0))) na0)
 have f62 := (kFld K52 (kFld K42 f50 (nwR (sn_264 hw) (nwR (sn_236 hw) nw0))) nw0)
 have f63 := (kFld K52 Q42_1 nw0)
 have sz_0_9 := (Nat.le_trans sz_0_8 K42.1)
 have sz_0_10 := (Nat.le_trans sz_0_9 K52.1)
 obtain ⟨_, T53, L53, X53, hS53, hk53, hZ53, hown53, hQ53, hC53, st53⟩ := own_Hvirtual X52 hx hZ52 hown52 (w330 hw) (w331 hw) (nfS hZ52 (w333 hw)) (w333 hw) (w332 hw) (w33 hw) (w334 hw) (by decide) (r45_setScope l Z a0 hw [] b12 c52 st_EL el_EL k_el_EL cs b52 kb52 h52 n0 (Nat.le_trans Z0 sz_0_10) f54 f55 f56 f57 f58 f59 f60 Ex52 sCS Fc52 Fv52 Ar52 hcs f61 f62 gg14 f63) e52 f54 (W := 0) (by decide) (g := (mkF m 104 #[vi p0, vi p1, vi p2, vi p3, vi 1, vi 2, vr b1, vr b6, vr b12, .unset, .unset, .unset] [(.ref c52), (.ref b12)])) rfl hml.symm (argsL := [(.ref c52)]) (rest := []) (lenOf pd_25 rfl) rfl rfl (own_wr rfl rfl) (hb hby at_104) hS52 hk52 (own_EW hw) Ah10.1 sf0
 obtain ⟨c20_53, b20_53, kb20_53, rfl, N53q, K53, Q53_0, Q53_1, Q53_2, Q53_3, Q53_4, Q53_5, Q53_6, Q53_7⟩ := hQ53
 have N53 := Fr.app N42 N53q
 have Ah11 := Ah10.trans hC53
 have sz_0_11 := (Nat.le_trans sz_0_10 K53.1)
 have f65 := (kExa K53 f54)
 obtain ⟨_, T64, L64, X64, hQ64, st64⟩ := own_virtual X53 hx hZ53 hown53 (w328 hw) (w317 hw) (nfS hZ53 (w319 hw)) (w319 hw) (w318 hw) (w33 hw) (w320 hw) (by decide) (r47_getScope l Z a0 hw [] b12 c20_53 T53.heap n0 (Nat.le_trans Z0 sz_0_11) Q53_2) rfl f65 (W := 0) (by decide) (g := (mkF m 157 #[vi p0, vi p1, vi p2, vi p3, vi 1, vi 2, vr b1, vr b6, vr b12, vi 0, .unset, .unset] [(.ref b12)])) rfl hml.symm (argsL := []) (rest := []) (lenOf pd_13 rfl) rfl rfl (own_wr rfl rfl) (hb hby at_157)
 obtain ⟨rfl, N64q, e64⟩ := hQ64
 have N64 := Fr.app N53 N64q
 obtain ⟨c66, T66, h66, k66, b66, kb66, X66, e66, E66, hS66, hk66, hZ66, hown66, Ex66, Fc66, Fv66, Ar66, lta66, ltb66, hC66, Lt66, hne66, st66⟩ := ldcCH X64 hx hZ53 hown53 (w329 hw) (own_wS hw) e64 hS53 hk53 (own_EW hw) (by decide) Ah11.1 (vs := [(.int 115), (.int 105), (.int 110), (.int 103), (.int 108), (.int 101), (.int 116), (.int 111), (.int 110)]) (z := 9) ⟨by decide, rfl⟩ (by decide) rfl (g := (mkF m 168 #[vi p0, vi p1, vi p2, vi p3, vi 1, vi 2, vr b1, vr b6, vr b12, vi 0, vr c20_53, .unset] [])) rfl (hb hby at_168) (n := 36) (by decide) (by decide) (by decide) (by decide)
 have K66 := KL.ofE E66
 have Ah12 := Ah11.trans hC66
 have f68 := (kExa K66 Q53_4)
 have f69 := (kOld K66 (kOld K53 f61 (naG gg14 (naG gg14 na0))) na0)
 have f70 := (kFld K66 Q53_5 nw0)
 have f71 := (kFld K66 Q53_6 nw0)
 have f72 := (kArv K66 Q53_7 na0)
 have sz_0_12 := (Nat.le_trans sz_0_11 K66.1)
 obtain ⟨_, T67, L67, X67, hQ67, st67⟩ := own_virtual X66 hx hZ66 hown66 (w335 hw) (w324 hw) (nfS hZ66 (w326 hw)) (w326 hw) (w325 hw) (w4 hw) (w327 hw) (by decide) (r_eqs l Z a0 hw [] c66 c20_53 b66 b20_53 cs kb66 kb20_53 h66 n0 (Nat.le_trans Z0 sz_0_12) hcs f68 sCS f69 Fc66 f70 Fv66 f71 Ar66 f72) e66 Ex66 (W := 0) (by decide) (g := (mkF m 228 #[vi p0, vi p1, vi p2, vi p3, vi 1, vi 2, vr b1, vr b6, vr b12, vi 0, vr c20_53, vr c66] [(.ref c20_53), (.ref c66)])) rfl hml.symm (argsL := [(.ref c20_53)]) (rest := []) (lenOf pd_14 rfl) rfl rfl (own_wr rfl rfl) (hb hby at_228)
 obtain ⟨rfl, N67q, e67⟩ := hQ67
 have N67 := Fr.app N64 N67q
 refine ⟨T67, _, some (.int 1), _, _, X67, hS66, (by rw [e67]; exact hk66), (fun h => by cases h <;> rfl), ?_, (by rw [e67]; exact Ah12), hZ66, fun fs hr => ?_⟩
 · show Q_law n0 _ _
   exact ⟨rfl, N67⟩
 refine t_iloadN 1 X0.here hx hby at_0 rfl rfl ?_
 refine X0.ldcInt hx hown (mvT hZ (w0 hw)) (g := (mkF m 1 #[vi p0, vi p1, vi p2, vi p3, .unset, .unset, .unset, .unset, .unset, .unset, .unset, .unset] [(.int p0)])) rfl (hb hby at_1) _ ?_
 refine t_iand 4 X0.here hx hby at_3 rfl rfl ?_
 refine t_iconst 5 (r := 3) X0.here hx hby at_4 (by decide) rfl ?_
 refine t_irem 6 (r := 1) X0.here hx hby at_5 (by decide) hs rfl ?_
 refine t_istore (pc' := 8) (L' := #[vi p0, vi p1, vi p2, vi p3, vi 1, .unset, .unset, .unset, .unset, .unset, .unset, .unset]) X0.here hx hby at_6 rfl rfl ?_
 refine t_iloadN 9 X0.here hx hby at_8 rfl rfl ?_
 refine t_iconst 10 (r := 3) X0.here hx hby at_9 (by decide) rfl ?_
 refine t_iand 11 (r := 2) X0.here hx hby at_10 hpm rfl ?_
 refine t_istore (pc' := 13) (L' := #[vi p0, vi p1, vi p2, vi p3, vi 1, vi 2, .unset, .unset, .unset, .unset, .unset, .unset]) X0.here hx hby at_11 rfl rfl ?_
 refine t_iconst 14 (r := 2) X0.here hx hby at_13 (by decide) rfl ?_
 refine st1 _ ?_
 refine t_astore (pc' := 18) (L' := #[vi p0, vi p1, vi p2, vi p3, vi 1, vi 2, vr b1, .unset, .unset, .unset, .unset, .unset]) X1.here hx hby at_16 rfl rfl rfl ?_
 refine t_aload 20 X1.here hx hby at_18 rfl rfl rfl ?_
 refine t_iconst 21 (r := 0) X1.here hx hby at_20 (by decide) rfl ?_
 refine t_bipush 23 (r := 33) X1.here hx hby at_21 (by decide) rfl ?_
 refine t_iloadN 24 X1.here hx hby at_23 rfl rfl ?_
 refine X1.ldcInt hx hown (mvT hZ (w0 hw)) (g := (mkF m 24 #[vi p0, vi p1, vi p2, vi p3, vi 1, vi 2, vr b1, .unset, .unset, .unset, .unset, .unset] [(.int p2), (.int 33), z0, (.ref b1)])) rfl (hb hby at_24) _ ?_
 refine t_iand 27 X1.here hx hby at_26 rfl rfl ?_
 refine t_bipush 29 (r := 94) X1.here hx hby at_27 (by decide) rfl ?_
 refine t_irem 30 X1.here hx hby at_29 (by decide) rfl rfl ?_
 refine t_iadd 31 (r := (own_c0 p2)) X1.here hx hby at_30 (Eq.refl (own_c0 p2)) rfl ?_
 refine t_i2c 32 (r := (own_c0 p2)) X1.here hx hby at_31 (own_c2c (own_c0a p2) (own_c0b p2)) rfl ?_
 refine st2 _ ?_
 refine t_aload 35 X2.here hx hby at_33 rfl rfl rfl ?_
 refine t_iconst 36 (r := 1) X2.here hx hby at_35 (by decide) rfl ?_
 refine t_iloadN 37 X2.here hx hby at_36 rfl rfl ?_
 refine t_sipush 40 (r := 255) X2.here hx hby at_37 (by decide) rfl ?_
 refine t_iand 41 X2.here hx hby at_40 rfl rfl ?_
 refine t_i2c 42 (r := (p3 &&& (255 : Int32))) X2.here hx hby at_41 (i2c_mask _) rfl ?_
 refine st4 _ ?_
 refine st6 _ ?_
 refine t_dup 47 X6.here hx hby at_46 rfl rfl ?_
 refine t_aload 49 X6.here hx hby at_47 rfl rfl rfl ?_
 refine st7 _ ?_
 refine t_astore (pc' := 54) (L' := #[vi p0, vi p1, vi p2, vi p3, vi 1, vi 2, vr b1, vr b6, .unset, .unset, .unset, .unset]) X7.here hx hby at_52 rfl rfl rfl ?_
 refine st12 _ ?_
 refine t_dup 58 X12.here hx hby at_57 rfl rfl ?_
 refine st13 _ ?_
 refine t_astore (pc' := 63) (L' := #[vi p0, vi p1, vi p2, vi p3, vi 1, vi 2, vr b1, vr b6, vr b12, .unset, .unset, .unset]) X13.here hx hby at_61 rfl rfl rfl ?_
 refine t_iload 65 X13.here hx hby at_63 rfl rfl ?_
 refine t_iconst 66 (r := 1) X13.here hx hby at_65 (by decide) rfl ?_
 refine t_icmpNo 69 X13.here hx hby at_66 (by decide) rfl ?_
 refine t_iload 71 X13.here hx hby at_69 rfl rfl ?_
 refine t_iconst 72 (r := 2) X13.here hx hby at_71 (by decide) rfl ?_
 refine t_icmpNo 75 X13.here hx hby at_72 (by decide) rfl ?_
 refine t_aload 77 X13.here hx hby at_75 rfl rfl rfl ?_
 refine t_aload 79 X13.here hx hby at_77 rfl rfl rfl ?_
 refine st16 _ ?_
 refine t_iload 84 X16.here hx hby at_82 rfl rfl ?_
 refine t_iconst 85 (r := 2) X16.here hx hby at_84 (by decide) rfl ?_
 refine t_icmpNo 88 X16.here hx hby at_85 (by decide) rfl ?_
 refine t_aload 90 X16.here hx hby at_88 rfl rfl rfl ?_
 refine t_aconst_null 91 X16.here hx hby at_90 rfl ?_
 refine st42 _ ?_
 refine t_iload 96 X42.here hx hby at_94 rfl rfl ?_
 refine t_iconst 97 (r := 1) X42.here hx hby at_96 (by decide) rfl ?_
 refine t_icmpNo 100 X42.here hx hby at_97 (by decide) rfl ?_
 refine t_aload 102 X42.here hx hby at_100 rfl rfl rfl ?_
 refine st52 _ ?_
 refine st53 _ ?_
 refine t_goto (pc := 107) 123 X53.here hx hby at_107 (by decide) (by decide) ?_
 refine t_iload 125 X53.here hx hby at_123 rfl rfl ?_
 refine t_iconst 126 (r := 3) X53.here hx hby at_125 (by decide) rfl ?_
 refine t_icmpYes (pc := 126) 136 X53.here hx hby at_126 (by decide) (by decide) (by decide) ?_
 refine t_iload 138 X53.here hx hby at_136 rfl rfl ?_
 refine t_iconst 139 (r := 1) X53.here hx hby at_138 (by decide) rfl ?_
 refine t_icmpNo 142 X53.here hx hby at_139 (by decide) rfl ?_
 refine t_iload 144 X53.here hx hby at_142 rfl rfl ?_
 refine t_iconst 145 (r := 3) X53.here hx hby at_144 (by decide) rfl ?_
 refine t_icmpYes (pc := 145) 152 X53.here hx hby at_145 (by decide) (by decide) (by decide) ?_
 refine t_iconst 153 (r := 0) X53.here hx hby at_152 (by decide) rfl ?_
 refine t_istore (pc' := 155) (L' := #[vi p0, vi p1, vi p2, vi p3, vi 1, vi 2, vr b1, vr b6, vr b12, vi 0, .unset, .unset]) X53.here hx hby at_153 rfl rfl ?_
 refine t_aload 157 X53.here hx hby at_155 rfl rfl rfl ?_
 refine st64 _ ?_
 refine t_astore (pc' := 162) (L' := #[vi p0, vi p1, vi p2, vi p3, vi 1, vi 2, vr b1, vr b6, vr b12, vi 0, vr c20_53, .unset]) X64.here hx hby at_160 rfl rfl rfl ?_
 refine t_iload 164 X64.here hx hby at_162 rfl rfl ?_
 refine t_iconst 165 (r := 1) X64.here hx hby at_164 (by decide) rfl ?_
 refine t_icmpNo 168 X64.here hx hby at_165 (by decide) rfl ?_
 refine st66 _ ?_
 refine t_astore (pc' := 172) (L' := #[vi p0, vi p1, vi p2, vi p3, vi 1, vi 2, vr b1, vr b6, vr b12, vi 0, vr c20_53, vr c66]) X66.here hx hby at_170 rfl rfl rfl ?_
 refine t_goto (pc := 172) 203 X66.here hx hby at_172 (by decide) (by decide) ?_
 refine t_aload 205 X66.here hx hby at_203 rfl rfl rfl ?_
 refine t_ifnonnullYes (pc := 205) 219 X66.here hx hby at_205 (by decide) (by decide) ?_
 refine t_aload 221 X66.here hx hby at_219 rfl rfl rfl ?_
 refine t_ifnullNo 224 X66.here hx hby at_221 rfl ?_
 refine t_aload 226 X66.here hx hby at_224 rfl rfl rfl ?_
 refine t_aload 228 X66.here hx hby at_226 rfl rfl rfl ?_
 refine st67 _ ?_
 refine t_ifNo 234 X67.here hx hby at_231 (by decide) rfl ?_
 refine t_iconst 235 (r := 1) X67.here hx hby at_234 (by decide) rfl ?_
 refine t_goto (pc := 235) 239 X67.here hx hby at_235 (by decide) (by decide) ?_
 exact retN X67 hx (t := .boolean) hret (by simp) (hb hby at_239) hr
def WS_r49_setParentName (Z : State) (o0 : Addr) : List (Addr × Nat) := [(o0, (sl21 Z)), (o0, (sl5 Z))]
def Q_r49_setParentName (Z : State) (o0 o1 o_1 o_2 : Addr) (k_o_2 : ClassId) (i_5 : Int32) (o_6 : Addr) (i_7 i_8 : Int32) (k_o_6 : ClassId) (o_9 o_10 : Addr) (l_11 : List Value) (k_o_10 : ClassId) (o_23 o_24 : Addr) (k_o_24 : ClassId) (h0 : Heap) (n0 : Nat) (v : Option Value) (h : Heap) (L : List Loc) : Prop := v = none ∧ Fr n0 L ∧ KL h0 h (WS_r49_setParentName Z o0) ∧ Fd21 Z h o0 (.ref o1) ∧ Fd5 Z h o0 (.int 1)
theorem r49_setParentName (l : Launch) (Z : State) (a0 : Array Value) (hw : HW Z a0) (ws : List Jvm.Cond) (o0 o1 o_1 o_2 : Addr) (k_o_2 : ClassId) (i_5 : Int32) (o_6 : Addr) (i_7 i_8 : Int32) (k_o_6 : ClassId) (o_9 o_10 : Addr) (l_11 : List Value) (k_o_10 : ClassId) (o_23 o_24 : Addr) (k_o_24 : ClassId) (h0 : Heap) (n0 : Nat) (Z0 : n0 ≤ h0.size) (E_o0 : Ex5 Z h0 o0) (F_o0_frozen : Fd20 Z h0 o0 z0) (F_o0_outers : Fd19 Z h0 o0 (.ref o_1)) (E_o_1 : Ex6 Z h0 o_1) (F_o_1_elements : Fd28 Z h0 o_1 (.ref o_2)) (V_o_2 : Arv Z h0 o_2 k_o_2 (.object "java/lang/Object") (0 : Int32) [] .null) (F_o0_changeListeners : Fd18 Z h0 o0 (.ref o_1)) (E_o1 : Ex4 Z h0 o1) (sCS : SCS Z i_5) (F_o1_coder : Fd3 Z h0 o1 z0) (F_o1_value : Fd4 Z h0 o1 (.ref o_6)) (V_o_6 : Arv Z h0 o_6 k_o_6 .byte 2 [(.int i_7), (.int i_8)] z0) (S_instance : Sa4 Z (.ref o_9)) (E_o_9 : Ex8 Z h0 o_9) (S_A : Sa3 Z (.ref o_10)) (V_o_10 : Arv Z h0 o_10 k_o_10 .int 256 l_11 z0) (O0 : Old Z n0 h0) (hp0 : ¬ (i_5 = (0 : Int32))) (hp1 : ¬ ((i_7 &&& (255 : Int32)) = (32 : Int32))) (hp2 : ¬ ((i_7 &&& (255 : Int32)) = (9 : Int32))) (hp3 : ¬ (((own_ai l_11 (i_7 &&& (255 : Int32))) &&& (28672 : Int32)) = (16384 : Int32))) (F_o0_parentName : Fd21 Z h0 o0 .null) (g_o0 : n0 ≤ o0) (F_o0_scope : Fd22 Z h0 o0 (.ref o_23)) (E_o_23 : Ex4 Z h0 o_23) (F_o_23_coder : Fd3 Z h0 o_23 z0) (F_o_23_value : Fd4 Z h0 o_23 (.ref o_24)) (V_o_24 : Arv Z h0 o_24 k_o_24 .byte 9 [(.int 115), (.int 105), (.int 110), (.int 103), (.int 108), (.int 101), (.int 116), (.int 111), (.int 110)] z0) (ne_o0_o_24 : o0 ≠ o_24) (F_o0_singleton : Fd5 Z h0 o0 (.int 1)) :
    OMH l Z consts_1 [] y40_setParentName b22_ 2 none ws ⟨6, 6, 228, 82⟩ #[(.ref o0), (.ref o1)] h0 (Q_r49_setParentName Z o0 o1 o_1 o_2 k_o_2 i_5 o_6 i_7 i_8 k_o_6 o_9 o_10 l_11 k_o_10 o_23 o_24 k_o_24 h0 n0) := by
 refine own_bodyH (k := 6) (n := 228) (own_EW hw) (plainFor_of_name pn_BeanDefinition762) (ef_0 o0 o1) (by decide) (by decide) ?_
 intro p e s m below meth c s₁ hx hby hml hown hnm hret hZ e0 hS0 hk0 X0 hC0 hSF0
 have N0 := Fr.nil n0
 obtain ⟨_, T3, L3, X3, hQ3, st3⟩ := own_private X0 hx hZ hown (w194 hw) (w195 hw) (w192 hw) rfl (w196 hw) (w33 hw) (w197 hw) (by decide) (r22_beginChange l Z a0 hw [] o0 o_1 o_2 k_o_2 h0 n0 Z0 E_o0 F_o0_frozen F_o0_outers E_o_1 F_o_1_elements V_o_2 F_o0_changeListeners) e0 E_o0 (W := 0) (by decide) (g := (mkF m 1 #[vr o0, vr o1] [(.ref o0)])) rfl hml.symm (argsL := []) (rest := []) (lenOf pd_9 rfl) rfl rfl (own_wr rfl rfl) (hb hby d291)
 obtain ⟨rfl, N3q, K3⟩ := hQ3
 have N3 := Fr.app N0 N3q
 have Ck0 := own_chK K3 na0 (CHr.refl hC0).1
 have Ah1 := (CHr.refl hC0).trans Ck0.1
 obtain ⟨c4, T4, h4, k4, b4, kb4, X4, e4, E4, hS4, hk4, hZ4, hown4, Ex4, Fc4, Fv4, Ar4, lta4, ltb4, hC4, Lt4, hne4, st4⟩ := ldcCH X3 hx hZ hown (w258 hw) (own_wS hw) rfl hS0 (Nat.le_trans hk0 K3.1) (own_EW hw) (by decide) Ah1.1 (vs := [(.int 65), (.int 32), (.int 112), (.int 97), (.int 114), (.int 101), (.int 110), (.int 116), (.int 32), (.int 100), (.int 101), (.int 102), (.int 105), (.int 110), (.int 105), (.int 116), (.int 105), (.int 111), (.int 110), (.int 39), (.int 115), (.int 32), (.int 110), (.int 97), (.int 109), (.int 101), (.int 32), (.int 109), (.int 117), (.int 115), (.int 116), (.int 32), (.int 110), (.int 111), (.int 116), (.int 32), (.int 98), (.int 101), (.int 32), (.int 98), (.int 108), (.int 97), (.int 110), (.int 107)]) (z := 44) ⟨by decide, rfl⟩ (by decide) rfl (g := (mkF m 6 #[vr o0, vr o1] [(.ref o1), (.ref o0)])) rfl (hb hby d360) (n := 176) (by decide) (by decide) (by decide) (by decide)
 have K4 := KL.ofE E4
 have Ah2 := Ah1.trans hC4
 have f13 := (kExa K4 (kExa K3 E_o1))
 have f14 := (kFld K4 (kFld K3 F_o1_coder nw0) nw0)
 have f15 := (kFld K4 (kFld K3 F_o1_value nw0) nw0)
 have f16 := (kArv K4 (kArv K3 V_o_6 na0) na0)
 have f17 := (kExa K4 (kExa K3 E_o_9))
 have f18 := (kArv K4 (kArv K3 V_o_10 na0) na0)
 have f19 := (kOld K4 (kOld K3 O0 na0) na0)
 have sz_0_2 := (Nat.le_trans K3.1 K4.1)
 obtain ⟨_, T12, L12, X12, hQ12, st12⟩ := own_static X4 hx hZ4 hown4 (w261 hw) (w262 hw) (w33 hw) (w263 hw) (by decide) (r29_requireTextOrNull l Z a0 hw [] o1 c4 i_5 o_6 i_7 i_8 k_o_6 o_9 o_10 l_11 k_o_10 h4 n0 (Nat.le_trans Z0 sz_0_2) f13 sCS f14 f15 f16 S_instance f17 S_A f18 f19 hp0 hp1 hp2 hp3) e4 (W := 1) (by decide) (g := (mkF m 8 #[vr o0, vr o1] [(.ref c4), (.ref o1), (.ref o0)])) rfl hml.symm (argsL := [(.ref o1), (.ref c4)]) (rest := [(.ref o0)]) (lenOf pd_24 rfl) rfl rfl (own_wr rfl rfl) (hb hby d361)
 obtain ⟨rfl, N12q, e12⟩ := hQ12
 have N12 := Fr.app N3 N12q
 have f20 := (kFld K4 (kFld K3 F_o0_parentName nw0) nw0)
 have f21 := (kExa K4 (kExa K3 E_o0))
 obtain ⟨T22, h22, X22, e22, W22, st22⟩ := putF X12 hx hZ4 hown4 (host := "") (Or.inl (w309 hw)) Via.refl e12 f20 f21 (Or.inl (w310 hw)) (w32 hw) (ty := (.object "java/lang/String")) (by decide) rfl rfl (g := (mkF m 11 #[vr o0, vr o1] [(.ref o1), (.ref o0)])) rfl rfl (hb hby d457)
 have K22 := KL.ofW W22
 have Ck2 := own_chK K22 (naF (Safe.exa hZ4.alike f21 (by decide) (by decide)) na0) Ah2.1
 have Ah3 := Ah2.trans Ck2.1
 have Fw22 : Fd21 Z h22 o0 (.ref o1) := Fld.same W22 f20
 have N22 := Fr.snoc X22 N12 g_o0
 have f26 := (kExa K22 f21)
 have f27 := (kFld K22 (kFld K4 (kFld K3 F_o0_scope nw0) nw0) (nwR (sn_264 hw) nw0))
 have f28 := (kExa K22 (kExa K4 (kExa K3 E_o_23)))
 have f29 := (kFld K22 (kFld K4 (kFld K3 F_o_23_coder nw0) nw0) (nwL (Ne.symm (ne_exa E_o0 E_o_23 (by decide))) nw0))
 have f30 := (kFld K22 (kFld K4 (kFld K3 F_o_23_value nw0) nw0) (nwL (Ne.symm (ne_exa E_o0 E_o_23 (by decide))) nw0))
 have f31 := (kArv K22 (kArv K4 (kArv K3 V_o_24 na0) na0) (naN ne_o0_o_24 na0))
 have f32 := (kOld K22 f19 (naG g_o0 na0))
 have sz_0_3 := (Nat.le_trans sz_0_2 K22.1)
 obtain ⟨_, T25, L25, X25, hS25, hk25, hZ25, hown25, hQ25, hC25, st25⟩ := own_Hprivate X22 hx hZ4 hown4 (w311 hw) (w312 hw) (w192 hw) rfl (w313 hw) (w33 hw) (w314 hw) (by decide) (r46_singletonScope l Z a0 hw [] o0 o_23 i_5 o_24 k_o_24 h22 n0 (Nat.le_trans Z0 sz_0_3) f26 f27 f28 sCS f29 f30 f31 hp0 f32) e22 f26 (W := 1) (by decide) (g := (mkF m 16 #[vr o0, vr o1] [(.ref o0), (.ref o0)])) rfl hml.symm (argsL := []) (rest := [(.ref o0)]) (lenOf pd_16 rfl) rfl rfl (own_wr rfl rfl) (hb hby d460) hS4 (Nat.le_trans hk4 K22.1) (own_EW hw) Ah3.1 sf0
 obtain ⟨rfl, N25q, K25⟩ := hQ25
 have N25 := Fr.app N22 N25q
 have Ah4 := Ah3.trans hC25
 have f33 := (kFld K25 (kFld K22 (kFld K4 (kFld K3 F_o0_singleton nw0) nw0) (nwR (sn_265 hw) nw0)) nw0)
 have f34 := (kExa K25 f26)
 obtain ⟨T35, h35, X35, e35, W35, st35⟩ := putF X25 hx hZ25 hown25 (host := "") (Or.inl (w38 hw)) Via.refl rfl f33 f34 (Or.inl (w39 hw)) (w32 hw) (ty := .boolean) (by decide) (by decide) (by decide) (g := (mkF m 19 #[vr o0, vr o1] [(.int 1), (.ref o0)])) rfl rfl (hb hby d469)
 have K35 := KL.ofW W35
 have Ck4 := own_chK K35 (naF (Safe.exa hZ25.alike f34 (by decide) (by decide)) na0) Ah4.1
 have Ah5 := Ah4.trans Ck4.1
 have Fw35 : Fd5 Z h35 o0 (.int 1) := Fld.same W35 f33
 have N35 := Fr.snoc X35 N25 g_o0
 have C0 := (KL.refl h0 (WS_r49_setParentName Z o0)).trans K3 na0
 have C1 := C0.trans K4 na0
 have C2 := C1.trans K22 (naO (own_mi 0 rfl) na0)
 have C3 := C2.trans K25 na0
 have C4 := C3.trans K35 (naO (own_mi 1 rfl) na0)
 have f36 := (kFld K35 (kFld K25 Fw22 nw0) (nwR (sn_251 hw) nw0))
 refine ⟨T35, _, none, _, _, X35, hS25, (by rw [e35]; exact (Nat.le_trans hk25 K35.1)), (fun h => by cases h <;> rfl), ?_, (by rw [e35]; exact Ah5), hZ25, fun fs hr => ?_⟩
 · show Q_r49_setParentName Z o0 o1 o_1 o_2 k_o_2 i_5 o_6 i_7 i_8 k_o_6 o_9 o_10 l_11 k_o_10 o_23 o_24 k_o_24 h0 n0 _ T35.heap _
   rw [e35]
   exact ⟨rfl, N35, C4, f36, Fw35⟩
 refine t_aloadN 1 X0.here hx hby d290 rfl rfl rfl ?_
 refine st3 _ ?_
 refine t_aloadN 5 X3.here hx hby d358 rfl rfl rfl ?_
 refine t_aloadN 6 X3.here hx hby d359 rfl rfl rfl ?_
 refine st4 _ ?_
 refine st12 _ ?_
 refine st22 _ ?_
 refine t_aloadN 15 X22.here hx hby d458 rfl rfl rfl ?_
 refine t_aloadN 16 X22.here hx hby d459 rfl rfl rfl ?_
 refine st25 _ ?_
 refine st35 _ ?_
 exact X35.returnOut hx hret (hb hby d470) hr
theorem sn_285 (hw : HW Z a0) : sl20 Z ≠ sl22 Z := slot_ne (a0 := a0) (Or.inl (w203 hw)) (Or.inl (w322 hw)) (by decide) (t := .boolean) (t' := ft6_) (by decide) (by decide)
theorem sn_286 (hw : HW Z a0) : sl19 Z ≠ sl22 Z := slot_ne (a0 := a0) (Or.inl (w188 hw)) (Or.inl (w322 hw)) (by decide) (t := ft0_) (t' := ft6_) (by decide) (by decide)
theorem sn_287 (hw : HW Z a0) : sl18 Z ≠ sl22 Z := slot_ne (a0 := a0) (Or.inl (w186 hw)) (Or.inl (w322 hw)) (by decide) (t := ft0_) (t' := ft6_) (by decide) (by decide)
theorem sn_288 (hw : HW Z a0) : sl21 Z ≠ sl22 Z := slot_ne (a0 := a0) (Or.inl (w310 hw)) (Or.inl (w322 hw)) (by decide) (t := ft6_) (t' := ft6_) (by decide) (by decide)
theorem law_13 (l : Launch) (Z : State) (a0 : Array Value) (hw : HW Z a0) (ws : List Jvm.Cond) (p0 p1 p2 p3 cs : Int32) (st_NO st_DC st_EL el_EL st_CD st_A : Addr) (tA : List Value) (m_AL m_UL m_UR m_LM m_UM : Addr) (k_el_EL k_st_A : ClassId) (h0 : Heap) (n0 : Nat) (Z0 : n0 ≤ h0.size) (hcs : ¬ (cs = (0 : Int32))) (hA : TabA tA) (hs : ((p0 &&& (2147483647 : Int32)) - ((p0 &&& (2147483647 : Int32)) / (3 : Int32)) * (3 : Int32)) = (1 : Int32)) (hpm : (p1 &&& (3 : Int32)) = (3 : Int32)) (sCS : SCS Z cs) (O0 : Old Z n0 h0) (S_DEFAULTCAPACITY_EMPTY_ELEMENTDATA : Sa0 Z (.ref st_DC)) (S_NO : Sa2 Z (.ref st_NO)) (M_java_util_ArrayList : OMir Z "java/util/ArrayList" m_AL) (M_java_util_Collections_UnmodifiableList : OMir Z "java/util/Collections$UnmodifiableList" m_UL) (M_java_util_Collections_UnmodifiableRandomAccessList : OMir Z "java/util/Collections$UnmodifiableRandomAccessList" m_UR) (M_java_util_LinkedHashMap : OMir Z "java/util/LinkedHashMap" m_LM) (M_java_util_Collections_UnmodifiableMap : OMir Z "java/util/Collections$UnmodifiableMap" m_UM) (S_EMPTY_LIST : Sa1 Z (.ref st_EL)) (E_st_EL : Ex6 Z h0 st_EL) (F_st_EL_elements : Fd28 Z h0 st_EL (.ref el_EL)) (V_el_EL : Arv Z h0 el_EL k_el_EL (.object "java/lang/Object") (0 : Int32) [] .null) (S_instance : Sa4 Z (.ref st_CD)) (E_st_CD : Ex8 Z h0 st_CD) (S_A : Sa3 Z (.ref st_A)) (V_st_A : Arv Z h0 st_A k_st_A .int 256 tA z0) :
    LawM l Z ws p0 p1 p2 p3 h0 n0 := by
 refine own_bodyH (k := 32) (n := 543) (y := x) (Q := fun v _ L => Q_law n0 v L) (own_EW hw) (plainFor_of_name pn_BeanDefinitionGetScopePinLaw149) (ef_law p0 p1 p2 p3) (by decide) (by decide) ?_
 intro p e s m below meth c s₁ hx hby hml hown hnm hret hZ e0 hS0 hk0 X0 hC0 hSF0
 have N0 := Fr.nil n0
 obtain ⟨T1, h1, k1, X1, e1, E1, A1, st1⟩ := newP (aty := .char) X0 hx hZ (w1 hw) e0 (g := (mkF m 14 #[vi p0, vi p1, vi p2, vi p3, vi 1, vi 3, .unset, .unset, .unset, .unset, .unset, .unset] [(.int 2)])) rfl (hb hby at_14) rfl (by decide) (cap := 2) (by decide) (by decide) (by decide) (by decide)
 obtain ⟨b1, g1⟩ : ∃ z, z = h0.size := ⟨_, rfl⟩
 rw [← g1] at A1 st1
 have ge_b1 : h0.size ≤ b1 := Nat.le_of_eq g1.symm
 have K1 := KL.ofE E1
 have Ck0 := own_chK K1 na0 (CHr.refl hC0).1
 have Ah1 := (CHr.refl hC0).trans Ck0.1
 have V1 : Arv Z h1 b1 k1 .char 2 [z0, z0] z0 := (Arv.new A1 (by decide)).pad (pad_rep [] z0 2)
 obtain ⟨T2, h2, X2, e2, W2, V2, st2⟩ := own_astC X1 hx hZ e1 V1 (j := 0) (by decide) 0 rfl (Nat.le_of_ble_eq_true rfl) (g := (mkF m 32 #[vi p0, vi p1, vi p2, vi p3, vi 1, vi 3, vr b1, .unset, .unset, .unset, .unset, .unset] [(.int (own_c0 p2)), z0, (.ref b1)])) rfl rfl (hb hby at_32)
 rw [show (nar .char (own_c0 p2)) = (own_c0 p2) from (own_c2c (own_c0a p2) (own_c0b p2))] at V2
 have gg3 := Nat.le_trans Z0 ge_b1
 have K2 := KL.ofW W2
 have Ck1 := own_chK K2 (naF (Ck0.2 _ (Safe.new ge_b1)) na0) Ah1.1
 have Ah2 := Ah1.trans Ck1.1
 replace V2 : Arv Z h2 b1 k1 .char 2 [(.int (own_c0 p2)), z0] z0 := V2
 have N2 := Fr.snoc X2 N0 gg3
 obtain ⟨T4, h4, X4, e4, W4, V4, st4⟩ := own_astC X2 hx hZ e2 V2 (j := 1) (by decide) 1 rfl (Nat.le_of_ble_eq_true rfl) (g := (mkF m 42 #[vi p0, vi p1, vi p2, vi p3, vi 1, vi 3, vr b1, .unset, .unset, .unset, .unset, .unset] [(.int (p3 &&& (255 : Int32))), (.int 1), (.ref b1)])) rfl rfl (hb hby at_42)
 rw [show (nar .char (p3 &&& (255 : Int32))) = (p3 &&& (255 : Int32)) from (i2c_mask _)] at V4
 have K4 := KL.ofW W4
 have sf5 := (Ck1.2 _ (Ck0.2 _ (Safe.new ge_b1)))
 have Ck2 := own_chK K4 (naF sf5 na0) Ah2.1
 have Ah3 := Ah2.trans Ck2.1
 replace V4 : Arv Z h4 b1 k1 .char 2 [(.int (own_c0 p2)), (.int (p3 &&& (255 : Int32)))] z0 := V4
 have N4 := Fr.snoc X4 N2 gg3
 obtain ⟨T6, h6, X6, e6, E6, A6, D6, -, st6⟩ := newO X4 hx hZ hown (w2 hw) (w3 hw) (w4 hw) e4 (g := (mkF m 43 #[vi p0, vi p1, vi p2, vi p3, vi 1, vi 3, vr b1, .unset, .unset, .unset, .unset, .unset] [])) rfl (hb hby at_43) (by decide) (by decide)
 obtain ⟨b6, g6⟩ : ∃ z, z = h4.size := ⟨_, rfl⟩
 rw [← g6] at A6 D6 st6
 have ge_b6 : h4.size ≤ b6 := Nat.le_of_eq g6.symm
 have K6 := KL.ofE E6
 have Ck3 := own_chK K6 na0 Ah3.1
 have Ah4 := Ah3.trans Ck3.1
 have F_b6_coder : Fd3 Z h6 b6 z0 := D6 (Or.inr (w28 hw)) (ty := .byte) (by decide)
 have F_b6_value : Fd4 Z h6 b6 .null := D6 (Or.inr (w30 hw)) (ty := (.array .byte)) (by decide)
 have f8 := (kArv K6 V4 na0)
 have f9 := (kOld K6 (kOld K4 (kOld K2 (kOld K1 O0 na0) (naG gg3 na0)) (naG gg3 na0)) na0)
 have sz_0_2 := (Nat.le_trans K1.1 K2.1)
 have sz_0_3 := (Nat.le_trans sz_0_2 K4.1)
 have gg10 := Nat.le_trans Z0 (Nat.le_trans sz_0_3 ge_b6)
 have sz_0_4 := (Nat.le_trans sz_0_3 K6.1)
 obtain ⟨_, T7, L7, X7, hQ7, st7⟩ := own_init X6 hx hZ rfl hown (w5 hw) (w6 hw) (w4 hw) (w7 hw) (by decide) (r7__init_ l Z a0 hw [] b6 b1 (own_c0 p2) (p3 &&& (255 : Int32)) k1 cs h6 n0 (Nat.le_trans Z0 sz_0_4) f8 sCS F_b6_coder A6 F_b6_value f9 hcs (own_c0b p2) (own_m255b _) gg10) e6 (W := 1) (by decide) (g := (mkF m 49 #[vi p0, vi p1, vi p2, vi p3, vi 1, vi 3, vr b1, .unset, .unset, .unset, .unset, .unset] [(.ref b1), (.ref b6), (.ref b6)])) rfl hml.symm (argsL := [(.ref b1)]) (rest := [(.ref b6)]) (lenOf pd_8 rfl) rfl rfl (own_wr rfl rfl) (hb hby at_49)
 obtain ⟨b1_6_4_7, k1_6_4_7, rfl, N7q, K7, Q7_0, Q7_1, Q7_2, Q7_3⟩ := hQ7
 have N7 := Fr.app N4 N7q
 have Ck4 := own_chK K7 (naF (Ck3.2 _ (Safe.new ge_b6)) (naF (Ck3.2 _ (Safe.new ge_b6)) na0)) Ah4.1
 have Ah5 := Ah4.trans Ck4.1
 obtain ⟨T12, h12, X12, e12, E12, A12, D12, -, st12⟩ := newO X7 hx hZ hown (w31 hw) (w32 hw) (w33 hw) rfl (g := (mkF m 54 #[vi p0, vi p1, vi p2, vi p3, vi 1, vi 3, vr b1, vr b6, .unset, .unset, .unset, .unset] [])) rfl (hb hby at_54) (by decide) (by decide)
 obtain ⟨b12, g12⟩ : ∃ z, z = T7.heap.size := ⟨_, rfl⟩
 rw [← g12] at A12 D12 st12
 have ge_b12 : T7.heap.size ≤ b12 := Nat.le_of_eq g12.symm
 have K12 := KL.ofE E12
 have Ck5 := own_chK K12 na0 Ah5.1
 have Ah6 := Ah5.trans Ck5.1
 have F_b12_singleton : Fd5 Z h12 b12 z0 := D12 (Or.inl (w39 hw)) (ty := .boolean) (by decide)
 have F_b12_initMethodRequired : Fd6 Z h12 b12 z0 := D12 (Or.inl (w41 hw)) (ty := .boolean) (by decide)
 have F_b12_destroyMethodRequired : Fd7 Z h12 b12 z0 := D12 (Or.inl (w43 hw)) (ty := .boolean) (by decide)
 have F_b12_dependsOn : Fd8 Z h12 b12 .null := D12 (Or.inr (w69 hw)) (ty := (.object "java/util/List")) (by decide)
 have F_b12_autowireCandidate : Fd9 Z h12 b12 z0 := D12 (Or.inl (w71 hw)) (ty := .boolean) (by decide)
 have F_b12_autowireMode : Fd10 Z h12 b12 .null := D12 (Or.inl (w76 hw)) (ty := (.object "com/example/graft_container/graftcontainer/BeanDefinition$Autowire")) (by decide)
 have F_b12_qualifiers : Fd11 Z h12 b12 .null := D12 (Or.inr (w104 hw)) (ty := (.object "java/util/Map")) (by decide)
 have F_b12_propertyValues : Fd12 Z h12 b12 .null := D12 (Or.inr (w106 hw)) (ty := (.object "java/util/List")) (by decide)
 have F_b12_constructorArguments : Fd13 Z h12 b12 .null := D12 (Or.inr (w108 hw)) (ty := (.object "java/util/List")) (by decide)
 have F_b12_dependsOnView : Fd14 Z h12 b12 .null := D12 (Or.inr (w153 hw)) (ty := (.object "java/util/List")) (by decide)
 have F_b12_qualifiersView : Fd15 Z h12 b12 .null := D12 (Or.inr (w174 hw)) (ty := (.object "java/util/Map")) (by decide)
 have F_b12_propertyValuesView : Fd16 Z h12 b12 .null := D12 (Or.inr (w176 hw)) (ty := (.object "java/util/List")) (by decide)
 have F_b12_constructorArgumentsView : Fd17 Z h12 b12 .null := D12 (Or.inr (w178 hw)) (ty := (.object "java/util/List")) (by decide)
 have F_b12_changeListeners : Fd18 Z h12 b12 .null := D12 (Or.inl (w186 hw)) (ty := (.object "java/util/List")) (by decide)
 have F_b12_outers : Fd19 Z h12 b12 .null := D12 (Or.inl (w188 hw)) (ty := (.object "java/util/List")) (by decide)
 have F_b12_frozen : Fd20 Z h12 b12 z0 := D12 (Or.inl (w203 hw)) (ty := .boolean) (by decide)
 have F_b12_parentName : Fd21 Z h12 b12 .null := D12 (Or.inl (w310 hw)) (ty := (.object "java/lang/String")) (by decide)
 have F_b12_scope : Fd22 Z h12 b12 .null := D12 (Or.inl (w322 hw)) (ty := (.object "java/lang/String")) (by decide)
 have sz_0_5 := (Nat.le_trans sz_0_4 K7.1)
 have gg14 := Nat.le_trans Z0 (Nat.le_trans sz_0_5 ge_b12)
 have f15 := (kOld K12 (kOld K7 f9 (naG gg10 (naG gg10 na0))) na0)
 have sz_0_6 := (Nat.le_trans sz_0_5 K12.1)
 obtain ⟨_, T13, L13, X13, hQ13, st13⟩ := own_init X12 hx hZ rfl hown (w34 hw) (w35 hw) (w33 hw) (w36 hw) (by decide) (r12__init_ l Z a0 hw [] b12 st_DC st_NO m_AL m_UL m_UR m_LM m_UM st_EL h12 n0 (Nat.le_trans Z0 sz_0_6) F_b12_singleton A12 gg14 F_b12_initMethodRequired F_b12_destroyMethodRequired S_DEFAULTCAPACITY_EMPTY_ELEMENTDATA f15 F_b12_dependsOn F_b12_autowireCandidate S_NO F_b12_autowireMode F_b12_qualifiers F_b12_propertyValues F_b12_constructorArguments M_java_util_ArrayList M_java_util_Collections_UnmodifiableList M_java_util_Collections_UnmodifiableRandomAccessList F_b12_dependsOnView M_java_util_LinkedHashMap M_java_util_Collections_UnmodifiableMap F_b12_qualifiersView F_b12_propertyValuesView F_b12_constructorArgumentsView S_EMPTY_LIST F_b12_changeListeners F_b12_outers) e12 (W := 1) (by decide) (g := (mkF m 58 #[vi p0, vi p1, vi p2, vi p3, vi 1, vi 3, vr b1, vr b6, .unset, .unset, .unset, .unset] [(.ref b12), (.ref b12)])) rfl hml.symm (argsL := []) (rest := [(.ref b12)]) (lenOf pd_9 rfl) rfl rfl (own_wr rfl rfl) (hb hby at_58)
 obtain ⟨b9_13, b27_13, b34_13, b42_13, r_55_13, r_64_13, r_71_13, r_78_13, rfl, N13q, K13, Q13_0, Q13_1, Q13_2, Q13_3, Q13_4, Q13_5, Q13_6, Q13_7, Q13_8, Q13_9, Q13_10, Q13_11, Q13_12, Q13_13, Q13_14, Q13_15, Q13_16, Q13_17, Q13_18, Q13_19, Q13_20, Q13_21, Q13_22⟩ := hQ13
 have N13 := Fr.app N7 N13q
 have Ck6 := own_chK K13 (naFM 15 rfl (Safe.exa hZ.alike A12 (by decide) (by decide)) na0) Ah6.1
 have Ah7 := Ah6.trans Ck6.1
 have sz_0_7 := (Nat.le_trans sz_0_6 K13.1)
 obtain ⟨c16, T16, h16, k16, b16, kb16, X16, e16, E16, hS16, hk16, hZ16, hown16, Ex16, Fc16, Fv16, Ar16, lta16, ltb16, hC16, Lt16, hne16, st16⟩ := ldcCH X13 hx hZ hown (w329 hw) (own_wS hw) rfl hS0 (Nat.le_trans hk0 sz_0_7) (own_EW hw) (by decide) Ah7.1 (vs := [(.int 115), (.int 105), (.int 110), (.int 103), (.int 108), (.int 101), (.int 116), (.int 111), (.int 110)]) (z := 9) ⟨by decide, rfl⟩ (by decide) rfl (g := (mkF m 102 #[vi p0, vi p1, vi p2, vi p3, vi 1, vi 3, vr b1, vr b6, vr b12, .unset, .unset, .unset] [(.ref b12)])) rfl (hb hby at_102) (n := 36) (by decide) (by decide) (by decide) (by decide)
 have K16 := KL.ofE E16
 have Ah8 := Ah7.trans hC16
 have f18 := (kExa K16 (kExa K13 A12))
 have f19 := (kFld K16 (kFld K13 F_b12_frozen (nwf_2 hw b12)) nw0)
 have f20 := (kFld K16 Q13_22 nw0)
 have f21 := (kExa K16 (kExa K13 (kExa K12 (kExa K7 (kExa K6 (kExa K4 (kExa K2 (kExa K1 E_st_EL))))))))
 have lt_st_EL : st_EL < h0.size := Exa.lt E_st_EL
 have ne22 := lt_ne lt_st_EL ge_b1
 have ne23 := lt_ne (Nat.lt_of_lt_of_le lt_st_EL sz_0_3) ge_b6
 have ne24 := lt_ne (Nat.lt_of_lt_of_le lt_st_EL sz_0_5) ge_b12
 have f25 := (kFld K16 (kFld K13 (kFld K12 (kFld K7 (kFld K6 (kFld K4 (kFld K2 (kFld K1 F_st_EL_elements nw0) (nwL ne22 nw0)) (nwL ne22 nw0)) nw0) (nwL ne23 (nwL ne23 nw0))) nw0) (nwM 15 rfl ne24 nw0)) nw0)
 have lt_el_EL : el_EL < h0.size := Arv.lt V_el_EL
 have ne26 := lt_ne lt_el_EL ge_b1
 have ne27 := lt_ne (Nat.lt_of_lt_of_le lt_el_EL sz_0_3) ge_b6
 have ne28 := lt_ne (Nat.lt_of_lt_of_le lt_el_EL sz_0_5) ge_b12
 have f29 := (kArv K16 (kArv K13 (kArv K12 (kArv K7 (kArv K6 (kArv K4 (kArv K2 (kArv K1 V_el_EL na0) (naN (Ne.symm ne26) na0)) (naN (Ne.symm ne26) na0)) na0) (naN (Ne.symm ne27) (naN (Ne.symm ne27) na0))) na0) (naNM 15 rfl (Ne.symm ne28) na0)) na0)
 have f30 := (kFld K16 Q13_21 nw0)
 have f31 := (kOld K16 (kOld K13 f15 (naGM 15 rfl gg14 na0)) na0)
 have f32 := (kFld K16 (kFld K13 F_b12_scope (nwf_0 hw b12)) nw0)
 have f33 := (kFld K16 Q13_8 nw0)
 have sz_0_8 := (Nat.le_trans sz_0_7 K16.1)
 obtain ⟨_, T17, L17, X17, hS17, hk17, hZ17, hown17, hQ17, hC17, st17⟩ := own_Hvirtual X16 hx hZ16 hown16 (w330 hw) (w331 hw) (nfS hZ16 (w333 hw)) (w333 hw) (w332 hw) (w33 hw) (w334 hw) (by decide) (r45_setScope l Z a0 hw [] b12 c16 st_EL el_EL k_el_EL cs b16 kb16 h16 n0 (Nat.le_trans Z0 sz_0_8) f18 f19 f20 f21 f25 f29 f30 Ex16 sCS Fc16 Fv16 Ar16 hcs f31 f32 gg14 f33) e16 f18 (W := 0) (by decide) (g := (mkF m 104 #[vi p0, vi p1, vi p2, vi p3, vi 1, vi 3, vr b1, vr b6, vr b12, .unset, .unset, .unset] [(.ref c16), (.ref b12)])) rfl hml.symm (argsL := [(.ref c16)]) (rest := []) (lenOf pd_25 rfl) rfl rfl (own_wr rfl rfl) (hb hby at_104) hS16 hk16 (own_EW hw) Ah8.1 sf0
 obtain ⟨c20_17, b20_17, kb20_17, rfl, N17q, K17, Q17_0, Q17_1, Q17_2, Q17_3, Q17_4, Q17_5, Q17_6, Q17_7⟩ := hQ17
 have N17 := Fr.app N13 N17q
 have Ah9 := Ah8.trans hC17
 have f35 := (kExa K17 f18)
 have f36 := (kFld K17 f19 (nwR (sn_285 hw) (nwR (sn_280 hw) nw0)))
 have f37 := (kFld K17 f20 (nwR (sn_286 hw) (nwR (sn_117 hw) nw0)))
 have f38 := (kExa K17 f21)
 have f39 := (kFld K17 f25 (nwL ne24 (nwL ne24 nw0)))
 have f40 := (kArv K17 f29 (naN (Ne.symm ne28) (naN (Ne.symm ne28) na0)))
 have f41 := (kFld K17 f30 (nwR (sn_287 hw) (nwR (sn_104 hw) nw0)))
 have f42 := (kExa K17 (kExa K16 (kExa K13 (kExa K12 (kExa K7 A6)))))
 have lt_b6 : b6 < h6.size := Exa.lt A6
 have ne43 := lt_ne (Nat.lt_of_lt_of_le lt_b6 K7.1) ge_b12
 have f44 := (kFld K17 (kFld K16 (kFld K13 (kFld K12 Q7_1 nw0) (nwM 15 rfl ne43 nw0)) nw0) (nwL ne43 (nwL ne43 nw0)))
 have f45 := (kFld K17 (kFld K16 (kFld K13 (kFld K12 Q7_2 nw0) (nwM 15 rfl ne43 nw0)) nw0) (nwL ne43 (nwL ne43 nw0)))
 have lt_b1_6_4_7 : b1_6_4_7 < T7.heap.size := Arv.lt Q7_3
 have ne46 := lt_ne lt_b1_6_4_7 ge_b12
 have f47 := (kArv K17 (kArv K16 (kArv K13 (kArv K12 Q7_3 na0) (naNM 15 rfl (Ne.symm ne46) na0)) na0) (naN (Ne.symm ne46) (naN (Ne.symm ne46) na0)))
 have f48 := (kExa K17 (kExa K16 (kExa K13 (kExa K12 (kExa K7 (kExa K6 (kExa K4 (kExa K2 (kExa K1 E_st_CD)))))))))
 have lt_st_A : st_A < h0.size := Arv.lt V_st_A
 have ne49 := lt_ne lt_st_A ge_b1
 have ne50 := lt_ne (Nat.lt_of_lt_of_le lt_st_A sz_0_3) ge_b6
 have ne51 := lt_ne (Nat.lt_of_lt_of_le lt_st_A sz_0_5) ge_b12
 have f52 := (kArv K17 (kArv K16 (kArv K13 (kArv K12 (kArv K7 (kArv K6 (kArv K4 (kArv K2 (kArv K1 V_st_A na0) (naN (Ne.symm ne49) na0)) (naN (Ne.symm ne49) na0)) na0) (naN (Ne.symm ne50) (naN (Ne.symm ne50) na0))) na0) (naNM 15 rfl (Ne.symm ne51) na0)) na0) (naN (Ne.symm ne51) (naN (Ne.symm ne51) na0)))
 have f53 := (kOld K17 f31 (naG gg14 (naG gg14 na0)))
 have f54 := (kFld K17 (kFld K16 (kFld K13 F_b12_parentName (nwf_1 hw b12)) nw0) (nwR (sn_288 hw) (nwR (sn_251 hw) nw0)))
 have sz_0_9 := (Nat.le_trans sz_0_8 K17.1)
 obtain ⟨_, T34, L34, X34, hS34, hk34, hZ34, hown34, hQ34, hC34, st34⟩ := own_Hvirtual X17 hx hZ17 hown17 (w189 hw) (w190 hw) (nfS hZ17 (w192 hw)) (w192 hw) (w191 hw) (w33 hw) (w193 hw) (by decide) (r49_setParentName l Z a0 hw [] b12 b6 st_EL el_EL k_el_EL cs b1_6_4_7 ((own_c0 p2).toInt8.toInt32) ((p3 &&& (255 : Int32)).toInt8.toInt32) k1_6_4_7 st_CD st_A tA k_st_A c20_17 b20_17 kb20_17 T17.heap n0 (Nat.le_trans Z0 sz_0_9) f35 f36 f37 f38 f39 f40 f41 f42 sCS f44 f45 f47 S_instance f48 S_A f52 f53 hcs (own_nsp p2 (by decide)) (own_nsp p2 (by decide)) (own_nws p2 hA) f54 gg14 Q17_2 Q17_4 Q17_5 Q17_6 Q17_7 (Ne.symm (own_arex Q17_7 f35 (w32 hw))) Q17_3) rfl f35 (W := 0) (by decide) (g := (mkF m 133 #[vi p0, vi p1, vi p2, vi p3, vi 1, vi 3, vr b1, vr b6, vr b12, .unset, .unset, .unset] [(.ref b6), (.ref b12)])) rfl hml.symm (argsL := [(.ref b6)]) (rest := []) (lenOf pd_25 rfl) rfl rfl (own_wr rfl rfl) (hb hby at_133) hS17 hk17 (own_EW hw) Ah9.1 sf0
 obtain ⟨rfl, N34q, K34, Q34_0, Q34_1⟩ := hQ34
 have N34 := Fr.app N17 N34q
 have Ah10 := Ah9.trans hC34
 have f56 := (kFld K34 Q17_2 (nwR (sn_264 hw) (nwR (sn_236 hw) nw0)))
 have sz_0_10 := (Nat.le_trans sz_0_9 K34.1)
 have f57 := (kExa K34 f35)
 obtain ⟨_, T55, L55, X55, hQ55, st55⟩ := own_virtual X34 hx hZ34 hown34 (w328 hw) (w317 hw) (nfS hZ34 (w319 hw)) (w319 hw) (w318 hw) (w33 hw) (w320 hw) (by decide) (r47_getScope l Z a0 hw [] b12 c20_17 T34.heap n0 (Nat.le_trans Z0 sz_0_10) f56) rfl f57 (W := 0) (by decide) (g := (mkF m 157 #[vi p0, vi p1, vi p2, vi p3, vi 1, vi 3, vr b1, vr b6, vr b12, vi 1, .unset, .unset] [(.ref b12)])) rfl hml.symm (argsL := []) (rest := []) (lenOf pd_13 rfl) rfl rfl (own_wr rfl rfl) (hb hby at_157)
 obtain ⟨rfl, N55q, e55⟩ := hQ55
 have N55 := Fr.app N34 N55q
 obtain ⟨c58, T58, h58, k58, b58, kb58, X58, e58, E58, hS58, hk58, hZ58, hown58, Ex58, Fc58, Fv58, Ar58, lta58, ltb58, hC58, Lt58, hne58, st58⟩ := ldcCH X55 hx hZ34 hown34 (w329 hw) (own_wS hw) e55 hS34 hk34 (own_EW hw) (by decide) Ah10.1 (vs := [(.int 115), (.int 105), (.int 110), (.int 103), (.int 108), (.int 101), (.int 116), (.int 111), (.int 110)]) (z := 9) ⟨by decide, rfl⟩ (by decide) rfl (g := (mkF m 168 #[vi p0, vi p1, vi p2, vi p3, vi 1, vi 3, vr b1, vr b6, vr b12, vi 1, vr c20_17, .unset] [])) rfl (hb hby at_168) (n := 36) (by decide) (by decide) (by decide) (by decide)
 have K58 := KL.ofE E58
 have Ah11 := Ah10.trans hC58
 have f60 := (kExa K58 (kExa K34 Q17_4))
 have f61 := (kOld K58 (kOld K34 f53 (naG gg14 (naG gg14 na0))) na0)
 have f62 := (kFld K58 (kFld K34 Q17_5 (nwL (ne_exa Q17_4 f35 (by decide)) (nwL (ne_exa Q17_4 f35 (by decide)) nw0))) nw0)
 have f63 := (kFld K58 (kFld K34 Q17_6 (nwL (ne_exa Q17_4 f35 (by decide)) (nwL (ne_exa Q17_4 f35 (by decide)) nw0))) nw0)
 have f64 := (kArv K58 (kArv K34 Q17_7 (naN (Ne.symm (own_arex Q17_7 f35 (w32 hw))) (naN (Ne.symm (own_arex Q17_7 f35 (w32 hw))) na0))) na0)
 have sz_0_11 := (Nat.le_trans sz_0_10 K58.1)
 obtain ⟨_, T59, L59, X59, hQ59, st59⟩ := own_virtual X58 hx hZ58 hown58 (w335 hw) (w324 hw) (nfS hZ58 (w326 hw)) (w326 hw) (w325 hw) (w4 hw) (w327 hw) (by decide) (r_eqs l Z a0 hw [] c58 c20_17 b58 b20_17 cs kb58 kb20_17 h58 n0 (Nat.le_trans Z0 sz_0_11) hcs f60 sCS f61 Fc58 f62 Fv58 f63 Ar58 f64) e58 Ex58 (W := 0) (by decide) (g := (mkF m 228 #[vi p0, vi p1, vi p2, vi p3, vi 1, vi 3, vr b1, vr b6, vr b12, vi 1, vr c20_17, vr c58] [(.ref c20_17), (.ref c58)])) rfl hml.symm (argsL := [(.ref c20_17)]) (rest := []) (lenOf pd_14 rfl) rfl rfl (own_wr rfl rfl) (hb hby at_228)
 obtain ⟨rfl, N59q, e59⟩ := hQ59
 have N59 := Fr.app N55 N59q
 refine ⟨T59, _, some (.int 1), _, _, X59, hS58, (by rw [e59]; exact hk58), (fun h => by cases h <;> rfl), ?_, (by rw [e59]; exact Ah11), hZ58, fun fs hr => ?_⟩
 · show Q_law n0 _ _
   exact ⟨rfl, N59⟩
 refine t_iloadN 1 X0.here hx hby at_0 rfl rfl ?_
 refine X0.ldcInt hx hown (mvT hZ (w0 hw)) (g := (mkF m 1 #[vi p0, vi p1, vi p2, vi p3, .unset, .unset, .unset, .unset, .unset, .unset, .unset, .unset] [(.int p0)])) rfl (hb hby at_1) _ ?_
 refine t_iand 4 X0.here hx hby at_3 rfl rfl ?_
 refine t_iconst 5 (r := 3) X0.here hx hby at_4 (by decide) rfl ?_
 refine t_irem 6 (r := 1) X0.here hx hby at_5 (by decide) hs rfl ?_
 refine t_istore (pc' := 8) (L' := #[vi p0, vi p1, vi p2, vi p3, vi 1, .unset, .unset, .unset, .unset, .unset, .unset, .unset]) X0.here hx hby at_6 rfl rfl ?_
 refine t_iloadN 9 X0.here hx hby at_8 rfl rfl ?_
 refine t_iconst 10 (r := 3) X0.here hx hby at_9 (by decide) rfl ?_
 refine t_iand 11 (r := 3) X0.here hx hby at_10 hpm rfl ?_
 refine t_istore (pc' := 13) (L' := #[vi p0, vi p1, vi p2, vi p3, vi 1, vi 3, .unset, .unset, .unset, .unset, .unset, .unset]) X0.here hx hby at_11 rfl rfl ?_
 refine t_iconst 14 (r := 2) X0.here hx hby at_13 (by decide) rfl ?_
 refine st1 _ ?_
 refine t_astore (pc' := 18) (L' := #[vi p0, vi p1, vi p2, vi p3, vi 1, vi 3, vr b1, .unset, .unset, .unset, .unset, .unset]) X1.here hx hby at_16 rfl rfl rfl ?_
 refine t_aload 20 X1.here hx hby at_18 rfl rfl rfl ?_
 refine t_iconst 21 (r := 0) X1.here hx hby at_20 (by decide) rfl ?_
 refine t_bipush 23 (r := 33) X1.here hx hby at_21 (by decide) rfl ?_
 refine t_iloadN 24 X1.here hx hby at_23 rfl rfl ?_
 refine X1.ldcInt hx hown (mvT hZ (w0 hw)) (g := (mkF m 24 #[vi p0, vi p1, vi p2, vi p3, vi 1, vi 3, vr b1, .unset, .unset, .unset, .unset, .unset] [(.int p2), (.int 33), z0, (.ref b1)])) rfl (hb hby at_24) _ ?_
 refine t_iand 27 X1.here hx hby at_26 rfl rfl ?_
 refine t_bipush 29 (r := 94) X1.here hx hby at_27 (by decide) rfl ?_
 refine t_irem 30 X1.here hx hby at_29 (by decide) rfl rfl ?_
 refine t_iadd 31 (r := (own_c0 p2)) X1.here hx hby at_30 (Eq.refl (own_c0 p2)) rfl ?_
 refine t_i2c 32 (r := (own_c0 p2)) X1.here hx hby at_31 (own_c2c (own_c0a p2) (own_c0b p2)) rfl ?_
 refine st2 _ ?_
 refine t_aload 35 X2.here hx hby at_33 rfl rfl rfl ?_
 refine t_iconst 36 (r := 1) X2.here hx hby at_35 (by decide) rfl ?_
 refine t_iloadN 37 X2.here hx hby at_36 rfl rfl ?_
 refine t_sipush 40 (r := 255) X2.here hx hby at_37 (by decide) rfl ?_
 refine t_iand 41 X2.here hx hby at_40 rfl rfl ?_
 refine t_i2c 42 (r := (p3 &&& (255 : Int32))) X2.here hx hby at_41 (i2c_mask _) rfl ?_
 refine st4 _ ?_
 refine st6 _ ?_
 refine t_dup 47 X6.here hx hby at_46 rfl rfl ?_
 refine t_aload 49 X6.here hx hby at_47 rfl rfl rfl ?_
 refine st7 _ ?_
 refine t_astore (pc' := 54) (L' := #[vi p0, vi p1, vi p2, vi p3, vi 1, vi 3, vr b1, vr b6, .unset, .unset, .unset, .unset]) X7.here hx hby at_52 rfl rfl rfl ?_
 refine st12 _ ?_
 refine t_dup 58 X12.here hx hby at_57 rfl rfl ?_
 refine st13 _ ?_
 refine t_astore (pc' := 63) (L' := #[vi p0, vi p1, vi p2, vi p3, vi 1, vi 3, vr b1, vr b6, vr b12, .unset, .unset, .unset]) X13.here hx hby at_61 rfl rfl rfl ?_
 refine t_iload 65 X13.here hx hby at_63 rfl rfl ?_
 refine t_iconst 66 (r := 1) X13.here hx hby at_65 (by decide) rfl ?_
 refine t_icmpNo 69 X13.here hx hby at_66 (by decide) rfl ?_
 refine t_iload 71 X13.here hx hby at_69 rfl rfl ?_
 refine t_iconst 72 (r := 2) X13.here hx hby at_71 (by decide) rfl ?_
 refine t_icmpYes (pc := 72) 82 X13.here hx hby at_72 (by decide) (by decide) (by decide) ?_
 refine t_iload 84 X13.here hx hby at_82 rfl rfl ?_
 refine t_iconst 85 (r := 2) X13.here hx hby at_84 (by decide) rfl ?_
 refine t_icmpYes (pc := 85) 94 X13.here hx hby at_85 (by decide) (by decide) (by decide) ?_
 refine t_iload 96 X13.here hx hby at_94 rfl rfl ?_
 refine t_iconst 97 (r := 1) X13.here hx hby at_96 (by decide) rfl ?_
 refine t_icmpNo 100 X13.here hx hby at_97 (by decide) rfl ?_
 refine t_aload 102 X13.here hx hby at_100 rfl rfl rfl ?_
 refine st16 _ ?_
 refine st17 _ ?_
 refine t_goto (pc := 107) 123 X17.here hx hby at_107 (by decide) (by decide) ?_
 refine t_iload 125 X17.here hx hby at_123 rfl rfl ?_
 refine t_iconst 126 (r := 3) X17.here hx hby at_125 (by decide) rfl ?_
 refine t_icmpNo 129 X17.here hx hby at_126 (by decide) rfl ?_
 refine t_aload 131 X17.here hx hby at_129 rfl rfl rfl ?_
 refine t_aload 133 X17.here hx hby at_131 rfl rfl rfl ?_
 refine st34 _ ?_
 refine t_iload 138 X34.here hx hby at_136 rfl rfl ?_
 refine t_iconst 139 (r := 1) X34.here hx hby at_138 (by decide) rfl ?_
 refine t_icmpNo 142 X34.here hx hby at_139 (by decide) rfl ?_
 refine t_iload 144 X34.here hx hby at_142 rfl rfl ?_
 refine t_iconst 145 (r := 3) X34.here hx hby at_144 (by decide) rfl ?_
 refine t_icmpNo 148 X34.here hx hby at_145 (by decide) rfl ?_
 refine t_iconst 149 (r := 1) X34.here hx hby at_148 (by decide) rfl ?_
 refine t_goto (pc := 149) 153 X34.here hx hby at_149 (by decide) (by decide) ?_
 refine t_istore (pc' := 155) (L' := #[vi p0, vi p1, vi p2, vi p3, vi 1, vi 3, vr b1, vr b6, vr b12, vi 1, .unset, .unset]) X34.here hx hby at_153 rfl rfl ?_
 refine t_aload 157 X34.here hx hby at_155 rfl rfl rfl ?_
 refine st55 _ ?_
 refine t_astore (pc' := 162) (L' := #[vi p0, vi p1, vi p2, vi p3, vi 1, vi 3, vr b1, vr b6, vr b12, vi 1, vr c20_17, .unset]) X55.here hx hby at_160 rfl rfl rfl ?_
 refine t_iload 164 X55.here hx hby at_162 rfl rfl ?_
 refine t_iconst 165 (r := 1) X55.here hx hby at_164 (by decide) rfl ?_
 refine t_icmpNo 168 X55.here hx hby at_165 (by decide) rfl ?_
 refine st58 _ ?_
 refine t_astore (pc' := 172) (L' := #[vi p0, vi p1, vi p2, vi p3, vi 1, vi 3, vr b1, vr b6, vr b12, vi 1, vr c20_17, vr c58]) X58.here hx hby at_170 rfl rfl rfl ?_
 refine t_goto (pc := 172) 203 X58.here hx hby at_172 (by decide) (by decide) ?_
 refine t_aload 205 X58.here hx hby at_203 rfl rfl rfl ?_
 refine t_ifnonnullYes (pc := 205) 219 X58.here hx hby at_205 (by decide) (by decide) ?_
 refine t_aload 221 X58.here hx hby at_219 rfl rfl rfl ?_
 refine t_ifnullNo 224 X58.here hx hby at_221 rfl ?_
 refine t_aload 226 X58.here hx hby at_224 rfl rfl rfl ?_
 refine t_aload 228 X58.here hx hby at_226 rfl rfl rfl ?_
 refine st59 _ ?_
 refine t_ifNo 234 X59.here hx hby at_231 (by decide) rfl ?_
 refine t_iconst 235 (r := 1) X59.here hx hby at_234 (by decide) rfl ?_
 refine t_goto (pc := 235) 239 X59.here hx hby at_235 (by decide) (by decide) ?_
 exact retN X59 hx (t := .boolean) hret (by simp) (hb hby at_239) hr
theorem d494 : decode b7_ 24 = .ok (.iconst 0, 1) := by decide +kernel
theorem d495 : decode b7_ 25 = .ok (.ireturn, 1) := by decide +kernel
def Q_r52_equals (Z : State) (o0 o1 : Addr) (k_o0 k_o1 : ClassId) (h0 : Heap) (n0 : Nat) (v : Option Value) (h : Heap) (L : List Loc) : Prop := v = some z0 ∧ Fr n0 L ∧ h = h0
theorem r52_equals (l : Launch) (Z : State) (a0 : Array Value) (hw : HW Z a0) (ws : List Jvm.Cond) (o0 o1 : Addr) (k_o0 k_o1 : ClassId) (h0 : Heap) (n0 : Nat) (Z0 : n0 ≤ h0.size) (V_o0 : Arv Z h0 o0 k_o0 .byte 9 [(.int 115), (.int 105), (.int 110), (.int 103), (.int 108), (.int 101), (.int 116), (.int 111), (.int 110)] z0) (V_o1 : Arv Z h0 o1 k_o1 .byte 9 [(.int 112), (.int 114), (.int 111), (.int 116), (.int 111), (.int 116), (.int 121), (.int 112), (.int 101)] z0) :
    MF l Z y6_equals b7_ 3 (some .boolean) ws ⟨0, 0, 0, 0⟩ #[(.ref o0), (.ref o1)] h0 (Q_r52_equals Z o0 o1 k_o0 k_o1 h0 n0) := by
 refine own_body (plainFor_of_name pn_StringLatin1120) (ef_2 o0 o1) (by decide) (by decide) ?_
 intro p e s m below meth c s₁ hx hby hml hown hnm hret hZ hh e0 X0
 have N0 := Fr.nil n0
 refine ⟨s₁, _, some z0, X0, (fun h => by cases h <;> rfl), ?_, fun fs hr => ?_⟩
 · show Q_r52_equals Z o0 o1 k_o0 k_o1 h0 n0 _ s₁.heap _
   rw [e0]
   exact ⟨rfl, N0, rfl⟩
 refine t_aloadN 1 X0.here hx hby d78 rfl rfl rfl ?_
 refine own_arlen (pc' := 2) X0 hx hZ e0 V_o0 (hb hby d79) rfl ?_
 refine t_aloadN 3 X0.here hx hby d80 rfl rfl rfl ?_
 refine own_arlen (pc' := 4) X0 hx hZ e0 V_o1 (hb hby d81) rfl ?_
 refine t_icmpNo 7 X0.here hx hby d82 (by decide) rfl ?_
 refine t_iconst 8 (r := 0) X0.here hx hby d83 (by decide) rfl ?_
 refine t_istoreN (pc' := 9) (L' := #[vr o0, vr o1, vi 0]) X0.here hx hby d84 rfl rfl ?_
 refine t_iloadN 10 X0.here hx hby d85 rfl rfl ?_
 refine t_aloadN 11 X0.here hx hby d86 rfl rfl rfl ?_
 refine own_arlen (pc' := 12) X0 hx hZ e0 V_o0 (hb hby d87) rfl ?_
 refine t_icmpNo 15 X0.here hx hby d88 (by decide) rfl ?_
 refine t_aloadN 16 X0.here hx hby d89 rfl rfl rfl ?_
 refine t_iloadN 17 X0.here hx hby d90 rfl rfl ?_
 refine own_aldB (pc' := 18) X0 hx hZ e0 V_o0 (j := 0) (v := (.int 115)) (by decide) rfl (hb hby d91) rfl ?_
 refine t_aloadN 19 X0.here hx hby d92 rfl rfl rfl ?_
 refine t_iloadN 20 X0.here hx hby d93 rfl rfl ?_
 refine own_aldB (pc' := 21) X0 hx hZ e0 V_o1 (j := 0) (v := (.int 112)) (by decide) rfl (hb hby d94) rfl ?_
 refine t_icmpNo 24 X0.here hx hby d95 (by decide) rfl ?_
 refine t_iconst 25 (r := 0) X0.here hx hby d494 (by decide) rfl ?_
 exact retN X0 hx (t := .boolean) hret (by simp) (hb hby d495) hr
def Q_r51_equals (Z : State) (o0 o1 : Addr) (i_3 : Int32) (o_7 o_9 : Addr) (k_o_7 k_o_9 : ClassId) (h0 : Heap) (n0 : Nat) (v : Option Value) (h : Heap) (L : List Loc) : Prop := v = some z0 ∧ Fr n0 L ∧ h = h0
theorem r51_equals (l : Launch) (Z : State) (a0 : Array Value) (hw : HW Z a0) (ws : List Jvm.Cond) (o0 o1 : Addr) (i_3 : Int32) (o_7 o_9 : Addr) (k_o_7 k_o_9 : ClassId) (h0 : Heap) (n0 : Nat) (Z0 : n0 ≤ h0.size) (ne_o0_o1 : o0 ≠ o1) (E_o1 : Ex4 Z h0 o1) (sCS : SCS Z i_3) (O0 : Old Z n0 h0) (hp0 : ¬ (i_3 = (0 : Int32))) (F_o0_coder : Fd3 Z h0 o0 z0) (F_o1_coder : Fd3 Z h0 o1 z0) (F_o0_value : Fd4 Z h0 o0 (.ref o_7)) (F_o1_value : Fd4 Z h0 o1 (.ref o_9)) (V_o_7 : Arv Z h0 o_7 k_o_7 .byte 9 [(.int 115), (.int 105), (.int 110), (.int 103), (.int 108), (.int 101), (.int 116), (.int 111), (.int 110)] z0) (V_o_9 : Arv Z h0 o_9 k_o_9 .byte 9 [(.int 112), (.int 114), (.int 111), (.int 116), (.int 111), (.int 116), (.int 121), (.int 112), (.int 101)] z0) :
    MF l Z y7_equals b6_ 3 (some .boolean) ws ⟨1, 0, 0, 14⟩ #[(.ref o0), (.ref o1)] h0 (Q_r51_equals Z o0 o1 i_3 o_7 o_9 k_o_7 k_o_9 h0 n0) := by
 refine own_body (plainFor_of_name pn_String564) (ef_2 o0 o1) (by decide) (by decide) ?_
 intro p e s m below meth c s₁ hx hby hml hown hnm hret hZ hh e0 X0
 have N0 := Fr.nil n0
 obtain ⟨T1, X1, e1, st1⟩ := instY X0 hx hZ hown (w337 hw) e0 (Ins.self E_o1) (g := (mkF m 8 #[vr o0, vr o1, .unset] [(.ref o1)])) rfl rfl (hb hby d61)
 obtain ⟨T2, X2, e2, st2⟩ := castY X1 hx hZ hown (w337 hw) e1 (Ins.self E_o1) (g := (mkF m 15 #[vr o0, vr o1, .unset] [(.ref o1)])) rfl rfl (hb hby d64)
 obtain ⟨T4, X4, e4, st4⟩ := getS2 X2 hx hZ hown (host := "") (Or.inl (w15 hw)) Via.refl e2 (Sta.ext O0.2 sCS) (g := (mkF m 19 #[vr o0, vr o1, vr o1] [])) rfl (hb hby d66)
 obtain ⟨T5, X5, e5, st5⟩ := getF X4 hx hZ hown (host := "") (Or.inl (w27 hw)) Via.refl e4 F_o0_coder (g := (mkF m 26 #[vr o0, vr o1, vr o1] [(.ref o0)])) rfl rfl (hb hby d69)
 obtain ⟨T6, X6, e6, st6⟩ := getF X5 hx hZ hown (host := "") (Or.inl (w27 hw)) Via.refl e5 F_o1_coder (g := (mkF m 30 #[vr o0, vr o1, vr o1] [(.ref o1), z0])) rfl rfl (hb hby d71)
 obtain ⟨T8, X8, e8, st8⟩ := getF X6 hx hZ hown (host := "") (Or.inl (w29 hw)) Via.refl e6 F_o0_value (g := (mkF m 37 #[vr o0, vr o1, vr o1] [(.ref o0)])) rfl rfl (hb hby d74)
 obtain ⟨T10, X10, e10, st10⟩ := getF X8 hx hZ hown (host := "") (Or.inl (w29 hw)) Via.refl e8 F_o1_value (g := (mkF m 41 #[vr o0, vr o1, vr o1] [(.ref o1), (.ref o_7)])) rfl rfl (hb hby d76)
 obtain ⟨_, T11, L11, X11, hQ11, st11⟩ := own_static X10 hx hZ hown (w338 hw) (w339 hw) (w281 hw) (w340 hw) (by decide) (r52_equals l Z a0 hw [] o_7 o_9 k_o_7 k_o_9 h0 n0 Z0 V_o_7 V_o_9) e10 (W := 0) (by decide) (g := (mkF m 44 #[vr o0, vr o1, vr o1] [(.ref o_9), (.ref o_7)])) rfl hml.symm (argsL := [(.ref o_7), (.ref o_9)]) (rest := []) (lenOf pd_3 rfl) rfl rfl (own_wr rfl rfl) (hb hby d77)
 obtain ⟨rfl, N11q, e11⟩ := hQ11
 have N11 := Fr.app N0 N11q
 refine ⟨T11, _, some z0, X11, (fun h => by cases h <;> rfl), ?_, fun fs hr => ?_⟩
 · show Q_r51_equals Z o0 o1 i_3 o_7 o_9 k_o_7 k_o_9 h0 n0 _ T11.heap _
   rw [e11]
   exact ⟨rfl, N11, rfl⟩
 refine t_aloadN 1 X0.here hx hby d57 rfl rfl rfl ?_
 refine t_aloadN 2 X0.here hx hby d58 rfl rfl rfl ?_
 refine Jvm.RoadKit.acmp (g := (mkF m 2 #[vr o0, vr o1, .unset] [(.ref o1), (.ref o0)])) X0 hx rfl rfl rfl (pc0 := 2) (pc' := 7) (same := false) rfl (hb hby d59) rfl (decide_eq_false fun q => absurd (Value.ref.inj q) ne_o0_o1) (by decide) (by decide) ?_
 refine t_aloadN 8 X0.here hx hby d60 rfl rfl rfl ?_
 refine st1 _ ?_
 refine t_ifNo 14 X1.here hx hby d62 (by decide) rfl ?_
 refine t_aloadN 15 X1.here hx hby d63 rfl rfl rfl ?_
 refine st2 _ ?_
 refine t_astoreN (pc' := 19) (L' := #[vr o0, vr o1, vr o1]) X2.here hx hby d65 rfl rfl rfl ?_
 refine st4 _ ?_
 refine t_ifNo 25 X4.here hx hby d67 ((if0 _ _).trans (feq hp0).1) rfl ?_
 refine t_aloadN 26 X4.here hx hby d68 rfl rfl rfl ?_
 refine st5 _ ?_
 refine t_aloadN 30 X5.here hx hby d70 rfl rfl rfl ?_
 refine st6 _ ?_
 refine t_icmpNo 36 X6.here hx hby d72 (by decide) rfl ?_
 refine t_aloadN 37 X6.here hx hby d73 rfl rfl rfl ?_
 refine st8 _ ?_
 refine t_aloadN 41 X8.here hx hby d75 rfl rfl rfl ?_
 refine st10 _ ?_
 refine st11 _ ?_
 refine t_ifYes (pc := 47) 54 X11.here hx hby d100 (by decide) (by decide) (by decide) ?_
 refine t_iconst 55 (r := 0) X11.here hx hby d467 (by decide) rfl ?_
 exact retN X11 hx (t := .boolean) hret (by simp) (hb hby d103) hr
theorem d496 : decode b41_ 13 = .ok (.ldc 155, 2) := by decide +kernel
theorem d497 : decode b41_ 15 = .ok (.aload_n 1, 1) := by decide +kernel
theorem d498 : decode b41_ 16 = .ok (.invokevirtual 150, 3) := by decide +kernel
theorem d499 : decode b41_ 19 = .ok (.ifCond .ne 17, 3) := by decide +kernel
theorem d500 : decode b41_ 51 = .ok (.ldc 155, 2) := by decide +kernel
def Q_r53_singletonScope (Z : State) (o0 o_2 : Addr) (i_6 : Int32) (o_7 : Addr) (k_o_7 : ClassId) (h0 : Heap) (n0 : Nat) (v : Option Value) (h : Heap) (L : List Loc) : Prop := v = some z0 ∧ Fr n0 L ∧ KL h0 h []
theorem r53_singletonScope (l : Launch) (Z : State) (a0 : Array Value) (hw : HW Z a0) (ws : List Jvm.Cond) (o0 o_2 : Addr) (i_6 : Int32) (o_7 : Addr) (k_o_7 : ClassId) (h0 : Heap) (n0 : Nat) (Z0 : n0 ≤ h0.size) (E_o0 : Ex5 Z h0 o0) (F_o0_scope : Fd22 Z h0 o0 (.ref o_2)) (E_o_2 : Ex4 Z h0 o_2) (sCS : SCS Z i_6) (F_o_2_coder : Fd3 Z h0 o_2 z0) (F_o_2_value : Fd4 Z h0 o_2 (.ref o_7)) (V_o_7 : Arv Z h0 o_7 k_o_7 .byte 9 [(.int 112), (.int 114), (.int 111), (.int 116), (.int 111), (.int 116), (.int 121), (.int 112), (.int 101)] z0) (O0 : Old Z n0 h0) (hp0 : ¬ (i_6 = (0 : Int32))) :
    OMH l Z consts_1 [] y39_singletonScope b40_ 1 (some .boolean) ws ⟨2, 2, 40, 28⟩ #[(.ref o0)] h0 (Q_r53_singletonScope Z o0 o_2 i_6 o_7 k_o_7 h0 n0) := by
 refine own_bodyH (k := 2) (n := 40) (own_EW hw) (plainFor_of_name pn_BeanDefinition762) (ef_1 o0) (by decide) (by decide) ?_
 intro p e s m below meth c s₁ hx hby hml hown hnm hret hZ e0 hS0 hk0 X0 hC0 hSF0
 have N0 := Fr.nil n0
 obtain ⟨c1, T1, h1, k1, b1, kb1, X1, e1, E1, hS1, hk1, hZ1, hown1, Ex1, Fc1, Fv1, Ar1, lta1, ltb1, hC1, Lt1, hne1, st1⟩ := ldcCH X0 hx hZ hown (w315 hw) (own_wS hw) e0 hS0 hk0 (own_EW hw) (by decide) (CHr.refl hC0).1 (vs := [(.int 115), (.int 105), (.int 110), (.int 103), (.int 108), (.int 101), (.int 116), (.int 111), (.int 110)]) (z := 9) ⟨by decide, rfl⟩ (by decide) rfl (g := (mkF m 0 #[vr o0] [])) rfl (hb hby d461) (n := 36) (by decide) (by decide) (by decide) (by decide)
 have K1 := KL.ofE E1
 have Ah1 := (CHr.refl hC0).trans hC1
 have f4 := (kFld K1 F_o0_scope nw0)
 have f5 := (kExa K1 E_o0)
 obtain ⟨_, T3, L3, X3, hQ3, st3⟩ := own_virtual X1 hx hZ1 hown1 (w316 hw) (w317 hw) (nfS hZ1 (w319 hw)) (w319 hw) (w318 hw) (w33 hw) (w320 hw) (by decide) (r47_getScope l Z a0 hw [] o0 o_2 h1 n0 (Nat.le_trans Z0 K1.1) f4) e1 f5 (W := 1) (by decide) (g := (mkF m 3 #[vr o0] [(.ref o0), (.ref c1)])) rfl hml.symm (argsL := []) (rest := [(.ref c1)]) (lenOf pd_13 rfl) rfl rfl (own_wr rfl rfl) (hb hby d463)
 obtain ⟨rfl, N3q, e3⟩ := hQ3
 have N3 := Fr.app N0 N3q
 have f9 := (kFld K1 F_o_2_value nw0)
 have f10 := (kArv K1 V_o_7 na0)
 have f11 := (kExa K1 E_o_2)
 have f12 := (kOld K1 O0 na0)
 have f13 := (kFld K1 F_o_2_coder nw0)
 obtain ⟨_, T8, L8, X8, hQ8, st8⟩ := own_virtual X3 hx hZ1 hown1 (w323 hw) (w324 hw) (nfS hZ1 (w326 hw)) (w326 hw) (w325 hw) (w4 hw) (w327 hw) (by decide) (r51_equals l Z a0 hw [] c1 o_2 i_6 b1 o_7 kb1 k_o_7 h1 n0 (Nat.le_trans Z0 K1.1) (own_sne Fv1 f9 (own_arne Ar1 f10 (i := 0) (Nat.le_of_ble_eq_true rfl) (by decide))) f11 sCS f12 hp0 Fc1 f13 Fv1 f9 Ar1 f10) e3 Ex1 (W := 0) (by decide) (g := (mkF m 6 #[vr o0] [(.ref o_2), (.ref c1)])) rfl hml.symm (argsL := [(.ref o_2)]) (rest := []) (lenOf pd_14 rfl) rfl rfl (own_wr rfl rfl) (hb hby d466)
 obtain ⟨rfl, N8q, e8⟩ := hQ8
 have N8 := Fr.app N3 N8q
 have C0 := (KL.refl h0 []).trans K1 na0
 refine ⟨T8, _, some z0, _, _, X8, hS1, (by rw [e8]; exact hk1), (fun h => by cases h <;> rfl), ?_, (by rw [e8]; exact Ah1), hZ1, fun fs hr => ?_⟩
 · show Q_r53_singletonScope Z o0 o_2 i_6 o_7 k_o_7 h0 n0 _ T8.heap _
   rw [e8]
   exact ⟨rfl, N8, C0⟩
 refine st1 _ ?_
 refine t_aloadN 3 X1.here hx hby d462 rfl rfl rfl ?_
 refine st3 _ ?_
 refine st8 _ ?_
 exact retN X8 hx (t := .boolean) hret (by simp) (hb hby d468) hr
def WS_r50_setScope (Z : State) (o0 : Addr) : List (Addr × Nat) := [(o0, (sl22 Z)), (o0, (sl5 Z))]
def Q_r50_setScope (Z : State) (o0 o1 o_1 o_2 : Addr) (k_o_2 : ClassId) (i_5 : Int32) (o_6 : Addr) (k_o_6 : ClassId) (h0 : Heap) (n0 : Nat) (v : Option Value) (h : Heap) (L : List Loc) : Prop := ∃ c27 : Addr, ∃ b27 : Addr, ∃ kb27 : ClassId, v = none ∧ Fr n0 L ∧ KL h0 h (WS_r50_setScope Z o0) ∧ c27 < h.size ∧ b27 < h.size ∧ Fd22 Z h o0 (.ref c27) ∧ Fd5 Z h o0 z0 ∧ Ex4 Z h c27 ∧ Fd3 Z h c27 z0 ∧ Fd4 Z h c27 (.ref b27) ∧ Arv Z h b27 kb27 .byte 9 [(.int 112), (.int 114), (.int 111), (.int 116), (.int 111), (.int 116), (.int 121), (.int 112), (.int 101)] z0
theorem r50_setScope (l : Launch) (Z : State) (a0 : Array Value) (hw : HW Z a0) (ws : List Jvm.Cond) (o0 o1 o_1 o_2 : Addr) (k_o_2 : ClassId) (i_5 : Int32) (o_6 : Addr) (k_o_6 : ClassId) (h0 : Heap) (n0 : Nat) (Z0 : n0 ≤ h0.size) (E_o0 : Ex5 Z h0 o0) (F_o0_frozen : Fd20 Z h0 o0 z0) (F_o0_outers : Fd19 Z h0 o0 (.ref o_1)) (E_o_1 : Ex6 Z h0 o_1) (F_o_1_elements : Fd28 Z h0 o_1 (.ref o_2)) (V_o_2 : Arv Z h0 o_2 k_o_2 (.object "java/lang/Object") (0 : Int32) [] .null) (F_o0_changeListeners : Fd18 Z h0 o0 (.ref o_1)) (E_o1 : Ex4 Z h0 o1) (sCS : SCS Z i_5) (F_o1_coder : Fd3 Z h0 o1 z0) (F_o1_value : Fd4 Z h0 o1 (.ref o_6)) (V_o_6 : Arv Z h0 o_6 k_o_6 .byte 9 [(.int 112), (.int 114), (.int 111), (.int 116), (.int 111), (.int 116), (.int 121), (.int 112), (.int 101)] z0) (O0 : Old Z n0 h0) (hp0 : ¬ (i_5 = (0 : Int32))) (F_o0_scope : Fd22 Z h0 o0 .null) (g_o0 : n0 ≤ o0) (F_o0_singleton : Fd5 Z h0 o0 (.int 1)) :
    OMH l Z consts_1 [] y41_setScope b41_ 2 none ws ⟨5, 12, 208, 66⟩ #[(.ref o0), (.ref o1)] h0 (Q_r50_setScope Z o0 o1 o_1 o_2 k_o_2 i_5 o_6 k_o_6 h0 n0) := by
 refine own_bodyH (k := 12) (n := 208) (own_EW hw) (plainFor_of_name pn_BeanDefinition762) (ef_0 o0 o1) (by decide) (by decide) ?_
 intro p e s m below meth c s₁ hx hby hml hown hnm hret hZ e0 hS0 hk0 X0 hC0 hSF0
 have N0 := Fr.nil n0
 obtain ⟨_, T3, L3, X3, hQ3, st3⟩ := own_private X0 hx hZ hown (w194 hw) (w195 hw) (w192 hw) rfl (w196 hw) (w33 hw) (w197 hw) (by decide) (r22_beginChange l Z a0 hw [] o0 o_1 o_2 k_o_2 h0 n0 Z0 E_o0 F_o0_frozen F_o0_outers E_o_1 F_o_1_elements V_o_2 F_o0_changeListeners) e0 E_o0 (W := 0) (by decide) (g := (mkF m 1 #[vr o0, vr o1] [(.ref o0)])) rfl hml.symm (argsL := []) (rest := []) (lenOf pd_9 rfl) rfl rfl (own_wr rfl rfl) (hb hby d472)
 obtain ⟨rfl, N3q, K3⟩ := hQ3
 have N3 := Fr.app N0 N3q
 have Ck0 := own_chK K3 na0 (CHr.refl hC0).1
 have Ah1 := (CHr.refl hC0).trans Ck0.1
 obtain ⟨c4, T4, h4, k4, b4, kb4, X4, e4, E4, hS4, hk4, hZ4, hown4, Ex4, Fc4, Fv4, Ar4, lta4, ltb4, hC4, Lt4, hne4, st4⟩ := ldcCH X3 hx hZ hown (w315 hw) (own_wS hw) rfl hS0 (Nat.le_trans hk0 K3.1) (own_EW hw) (by decide) Ah1.1 (vs := [(.int 115), (.int 105), (.int 110), (.int 103), (.int 108), (.int 101), (.int 116), (.int 111), (.int 110)]) (z := 9) ⟨by decide, rfl⟩ (by decide) rfl (g := (mkF m 4 #[vr o0, vr o1] [])) rfl (hb hby d473) (n := 36) (by decide) (by decide) (by decide) (by decide)
 have K4 := KL.ofE E4
 have Ah2 := Ah1.trans hC4
 have f8 := (kFld K4 (kFld K3 F_o1_value nw0) nw0)
 have f9 := (kArv K4 (kArv K3 V_o_6 na0) na0)
 have f10 := (kExa K4 (kExa K3 E_o1))
 have f11 := (kOld K4 (kOld K3 O0 na0) na0)
 have f12 := (kFld K4 (kFld K3 F_o1_coder nw0) nw0)
 have sz_0_2 := (Nat.le_trans K3.1 K4.1)
 obtain ⟨_, T7, L7, X7, hQ7, st7⟩ := own_virtual X4 hx hZ4 hown4 (w323 hw) (w324 hw) (nfS hZ4 (w326 hw)) (w326 hw) (w325 hw) (w4 hw) (w327 hw) (by decide) (r51_equals l Z a0 hw [] c4 o1 i_5 b4 o_6 kb4 k_o_6 h4 n0 (Nat.le_trans Z0 sz_0_2) (own_sne Fv4 f8 (own_arne Ar4 f9 (i := 0) (Nat.le_of_ble_eq_true rfl) (by decide))) f10 sCS f11 hp0 Fc4 f12 Fv4 f8 Ar4 f9) e4 Ex4 (W := 0) (by decide) (g := (mkF m 7 #[vr o0, vr o1] [(.ref o1), (.ref c4)])) rfl hml.symm (argsL := [(.ref o1)]) (rest := []) (lenOf pd_14 rfl) rfl rfl (own_wr rfl rfl) (hb hby d475)
 obtain ⟨rfl, N7q, e7⟩ := hQ7
 have N7 := Fr.app N3 N7q
 obtain ⟨c13, T13, h13, k13, b13, kb13, X13, e13, E13, hS13, hk13, hZ13, hown13, Ex13, Fc13, Fv13, Ar13, lta13, ltb13, hC13, Lt13, hne13, st13⟩ := ldcCH X7 hx hZ4 hown4 (w341 hw) (own_wS hw) e7 hS4 hk4 (own_EW hw) (by decide) Ah2.1 (vs := [(.int 112), (.int 114), (.int 111), (.int 116), (.int 111), (.int 116), (.int 121), (.int 112), (.int 101)]) (z := 9) ⟨by decide, rfl⟩ (by decide) rfl (g := (mkF m 13 #[vr o0, vr o1] [])) rfl (hb hby d496) (n := 36) (by decide) (by decide) (by decide) (by decide)
 have K13 := KL.ofE E13
 have Ah3 := Ah2.trans hC13
 have f15 := (kExa K13 f10)
 have f16 := (kOld K13 f11 na0)
 have f17 := (kFld K13 f12 nw0)
 have f18 := (kFld K13 f8 nw0)
 have f19 := (kArv K13 f9 na0)
 have sz_0_3 := (Nat.le_trans sz_0_2 K13.1)
 obtain ⟨_, T14, L14, X14, hQ14, st14⟩ := own_virtual X13 hx hZ13 hown13 (w323 hw) (w324 hw) (nfS hZ13 (w326 hw)) (w326 hw) (w325 hw) (w4 hw) (w327 hw) (by decide) (r_eqp l Z a0 hw [] c13 o1 b13 o_6 i_5 kb13 k_o_6 h13 n0 (Nat.le_trans Z0 sz_0_3) hp0 f15 sCS f16 Fc13 f17 Fv13 f18 Ar13 f19) e13 Ex13 (W := 0) (by decide) (g := (mkF m 16 #[vr o0, vr o1] [(.ref o1), (.ref c13)])) rfl hml.symm (argsL := [(.ref o1)]) (rest := []) (lenOf pd_14 rfl) rfl rfl (own_wr rfl rfl) (hb hby d498)
 obtain ⟨rfl, N14q, e14⟩ := hQ14
 have N14 := Fr.app N7 N14q
 obtain ⟨c20, T20, h20, k20, b20, kb20, X20, e20, E20, hS20, hk20, hZ20, hown20, Ex20, Fc20, Fv20, Ar20, lta20, ltb20, hC20, Lt20, hne20, st20⟩ := ldcCH X14 hx hZ13 hown13 (w315 hw) (own_wS hw) e14 hS13 hk13 (own_EW hw) (by decide) Ah3.1 (vs := [(.int 115), (.int 105), (.int 110), (.int 103), (.int 108), (.int 101), (.int 116), (.int 111), (.int 110)]) (z := 9) ⟨by decide, rfl⟩ (by decide) rfl (g := (mkF m 37 #[vr o0, vr o1] [(.ref o0)])) rfl (hb hby d478) (n := 36) (by decide) (by decide) (by decide) (by decide)
 have K20 := KL.ofE E20
 have Ah4 := Ah3.trans hC20
 have f22 := (kFld K20 f18 nw0)
 have f23 := (kArv K20 f19 na0)
 have f24 := (kExa K20 f15)
 have f25 := (kOld K20 f16 na0)
 have f26 := (kFld K20 f17 nw0)
 have sz_0_4 := (Nat.le_trans sz_0_3 K20.1)
 obtain ⟨_, T21, L21, X21, hQ21, st21⟩ := own_virtual X20 hx hZ20 hown20 (w323 hw) (w324 hw) (nfS hZ20 (w326 hw)) (w326 hw) (w325 hw) (w4 hw) (w327 hw) (by decide) (r51_equals l Z a0 hw [] c20 o1 i_5 b20 o_6 kb20 k_o_6 h20 n0 (Nat.le_trans Z0 sz_0_4) (own_sne Fv20 f22 (own_arne Ar20 f23 (i := 0) (Nat.le_of_ble_eq_true rfl) (by decide))) f24 sCS f25 hp0 Fc20 f26 Fv20 f22 Ar20 f23) e20 Ex20 (W := 1) (by decide) (g := (mkF m 40 #[vr o0, vr o1] [(.ref o1), (.ref c20), (.ref o0)])) rfl hml.symm (argsL := [(.ref o1)]) (rest := [(.ref o0)]) (lenOf pd_14 rfl) rfl rfl (own_wr rfl rfl) (hb hby d480)
 obtain ⟨rfl, N21q, e21⟩ := hQ21
 have N21 := Fr.app N14 N21q
 obtain ⟨c27, T27, h27, k27, b27, kb27, X27, e27, E27, hS27, hk27, hZ27, hown27, Ex27, Fc27, Fv27, Ar27, lta27, ltb27, hC27, Lt27, hne27, st27⟩ := ldcCH X21 hx hZ20 hown20 (w341 hw) (own_wS hw) e21 hS20 hk20 (own_EW hw) (by decide) Ah4.1 (vs := [(.int 112), (.int 114), (.int 111), (.int 116), (.int 111), (.int 116), (.int 121), (.int 112), (.int 101)]) (z := 9) ⟨by decide, rfl⟩ (by decide) rfl (g := (mkF m 51 #[vr o0, vr o1] [(.ref o0)])) rfl (hb hby d500) (n := 36) (by decide) (by decide) (by decide) (by decide)
 have K27 := KL.ofE E27
 have Ah5 := Ah4.trans hC27
 have f28 := (kFld K27 (kFld K20 (kFld K13 (kFld K4 (kFld K3 F_o0_scope nw0) nw0) nw0) nw0) nw0)
 have f29 := (kExa K27 (kExa K20 (kExa K13 (kExa K4 (kExa K3 E_o0)))))
 obtain ⟨T30, h30, X30, e30, W30, st30⟩ := putF X27 hx hZ27 hown27 (host := "") (Or.inl (w321 hw)) Via.refl e27 f28 f29 (Or.inl (w322 hw)) (w32 hw) (ty := (.object "java/lang/String")) (by decide) rfl rfl (g := (mkF m 53 #[vr o0, vr o1] [(.ref c27), (.ref o0)])) rfl rfl (hb hby d484)
 have K30 := KL.ofW W30
 have Ck5 := own_chK K30 (naF (Safe.exa hZ27.alike f29 (by decide) (by decide)) na0) Ah5.1
 have Ah6 := Ah5.trans Ck5.1
 have Fw30 : Fd22 Z h30 o0 (.ref c27) := Fld.same W30 f28
 have N30 := Fr.snoc X30 N21 g_o0
 have f32 := (kExa K30 f29)
 have f33 := (kExa K30 Ex27)
 have lt_o0 : o0 < h0.size := Exa.lt E_o0
 have sf34 := (CHr.safe hC27 (Nat.lt_of_lt_of_le lt_o0 sz_0_4) (CHr.safe hC20 (Nat.lt_of_lt_of_le lt_o0 sz_0_3) (CHr.safe hC13 (Nat.lt_of_lt_of_le lt_o0 sz_0_2) (CHr.safe hC4 (Nat.lt_of_lt_of_le lt_o0 K3.1) (Ck0.2 _ (Safe.exa (by first | exact hZ.alike | assumption) E_o0 (by decide) (by decide)))))))
 have f35 := (kFld K30 Fc27 (nwL (Ne.symm (hne27 _ sf34).1) nw0))
 have f36 := (kFld K30 Fv27 (nwL (Ne.symm (hne27 _ sf34).1) nw0))
 have f37 := (kArv K30 Ar27 (naN (hne27 _ sf34).2 na0))
 have f38 := (kOld K30 (kOld K27 f25 na0) (naG g_o0 na0))
 have sz_0_5 := (Nat.le_trans sz_0_4 K27.1)
 have sz_0_6 := (Nat.le_trans sz_0_5 K30.1)
 obtain ⟨_, T31, L31, X31, hS31, hk31, hZ31, hown31, hQ31, hC31, st31⟩ := own_Hprivate X30 hx hZ27 hown27 (w311 hw) (w312 hw) (w192 hw) rfl (w313 hw) (w33 hw) (w314 hw) (by decide) (r53_singletonScope l Z a0 hw [] o0 c27 i_5 b27 kb27 h30 n0 (Nat.le_trans Z0 sz_0_6) f32 Fw30 f33 sCS f35 f36 f37 f38 hp0) e30 f32 (W := 1) (by decide) (g := (mkF m 58 #[vr o0, vr o1] [(.ref o0), (.ref o0)])) rfl hml.symm (argsL := []) (rest := [(.ref o0)]) (lenOf pd_16 rfl) rfl rfl (own_wr rfl rfl) (hb hby d487) hS27 (Nat.le_trans hk27 K30.1) (own_EW hw) Ah6.1 sf0
 obtain ⟨rfl, N31q, K31⟩ := hQ31
 have N31 := Fr.app N30 N31q
 have Ah7 := Ah6.trans hC31
 have f39 := (kFld K31 (kFld K30 (kFld K27 (kFld K20 (kFld K13 (kFld K4 (kFld K3 F_o0_singleton nw0) nw0) nw0) nw0) nw0) (nwR (sn_284 hw) nw0)) nw0)
 have f40 := (kExa K31 f32)
 obtain ⟨T41, h41, X41, e41, W41, st41⟩ := putF X31 hx hZ31 hown31 (host := "") (Or.inl (w38 hw)) Via.refl rfl f39 f40 (Or.inl (w39 hw)) (w32 hw) (ty := .boolean) (by decide) (by decide) (by decide) (g := (mkF m 61 #[vr o0, vr o1] [z0, (.ref o0)])) rfl rfl (hb hby d492)
 have K41 := KL.ofW W41
 have Ck7 := own_chK K41 (naF (Safe.exa hZ31.alike f40 (by decide) (by decide)) na0) Ah7.1
 have Ah8 := Ah7.trans Ck7.1
 have Fw41 : Fd5 Z h41 o0 z0 := Fld.same W41 f39
 have N41 := Fr.snoc X41 N31 g_o0
 have C0 := (KL.refl h0 (WS_r50_setScope Z o0)).trans K3 na0
 have C1 := C0.trans K4 na0
 have C2 := C1.trans K13 na0
 have C3 := C2.trans K20 na0
 have C4 := C3.trans K27 na0
 have C5 := C4.trans K30 (naO (own_mi 0 rfl) na0)
 have C6 := C5.trans K31 na0
 have C7 := C6.trans K41 (naO (own_mi 1 rfl) na0)
 have sz_5_7 := (Nat.le_trans K30.1 K31.1)
 have sz_5_8 := (Nat.le_trans sz_5_7 K41.1)
 have f42 := (kFld K41 (kFld K31 Fw30 nw0) (nwR (sn_236 hw) nw0))
 have f43 := (kExa K41 (kExa K31 f33))
 have f44 := (kFld K41 (kFld K31 f35 nw0) (nwL (Ne.symm (hne27 _ sf34).1) nw0))
 have f45 := (kFld K41 (kFld K31 f36 nw0) (nwL (Ne.symm (hne27 _ sf34).1) nw0))
 have f46 := (kArv K41 (kArv K31 f37 na0) (naN (hne27 _ sf34).2 na0))
 refine ⟨T41, _, none, _, _, X41, hS31, (by rw [e41]; exact (Nat.le_trans hk31 K41.1)), (fun h => by cases h <;> rfl), ?_, (by rw [e41]; exact Ah8), hZ31, fun fs hr => ?_⟩
 · show Q_r50_setScope Z o0 o1 o_1 o_2 k_o_2 i_5 o_6 k_o_6 h0 n0 _ T41.heap _
   rw [e41]
   exact ⟨c27, b27, kb27, rfl, N41, C7, (Nat.lt_of_lt_of_le lta27 sz_5_8), (Nat.lt_of_lt_of_le ltb27 sz_5_8), f42, Fw41, f43, f44, f45, f46⟩
 refine t_aloadN 1 X0.here hx hby d471 rfl rfl rfl ?_
 refine st3 _ ?_
 refine st4 _ ?_
 refine t_aloadN 7 X4.here hx hby d474 rfl rfl rfl ?_
 refine st7 _ ?_
 refine t_ifNo 13 X7.here hx hby d476 (by decide) rfl ?_
 refine st13 _ ?_
 refine t_aloadN 16 X13.here hx hby d497 rfl rfl rfl ?_
 refine st14 _ ?_
 refine t_ifYes (pc := 19) 36 X14.here hx hby d499 (by decide) (by decide) (by decide) ?_
 refine t_aloadN 37 X14.here hx hby d477 rfl rfl rfl ?_
 refine st20 _ ?_
 refine t_aloadN 40 X20.here hx hby d479 rfl rfl rfl ?_
 refine st21 _ ?_
 refine t_ifYes (pc := 43) 51 X21.here hx hby d481 (by decide) (by decide) (by decide) ?_
 refine st27 _ ?_
 refine st30 _ ?_
 refine t_aloadN 57 X30.here hx hby d485 rfl rfl rfl ?_
 refine t_aloadN 58 X30.here hx hby d486 rfl rfl rfl ?_
 refine st31 _ ?_
 refine st41 _ ?_
 exact X41.returnOut hx hret (hb hby d493) hr
theorem law_20 (l : Launch) (Z : State) (a0 : Array Value) (hw : HW Z a0) (ws : List Jvm.Cond) (p0 p1 p2 p3 cs : Int32) (st_NO st_DC st_EL el_EL st_CD st_A : Addr) (tA : List Value) (m_AL m_UL m_UR m_LM m_UM : Addr) (k_el_EL : ClassId) (h0 : Heap) (n0 : Nat) (Z0 : n0 ≤ h0.size) (hcs : ¬ (cs = (0 : Int32))) (hs : ((p0 &&& (2147483647 : Int32)) - ((p0 &&& (2147483647 : Int32)) / (3 : Int32)) * (3 : Int32)) = (2 : Int32)) (hpm : (p1 &&& (3 : Int32)) = (0 : Int32)) (sCS : SCS Z cs) (O0 : Old Z n0 h0) (S_DEFAULTCAPACITY_EMPTY_ELEMENTDATA : Sa0 Z (.ref st_DC)) (S_NO : Sa2 Z (.ref st_NO)) (M_java_util_ArrayList : OMir Z "java/util/ArrayList" m_AL) (M_java_util_Collections_UnmodifiableList : OMir Z "java/util/Collections$UnmodifiableList" m_UL) (M_java_util_Collections_UnmodifiableRandomAccessList : OMir Z "java/util/Collections$UnmodifiableRandomAccessList" m_UR) (M_java_util_LinkedHashMap : OMir Z "java/util/LinkedHashMap" m_LM) (M_java_util_Collections_UnmodifiableMap : OMir Z "java/util/Collections$UnmodifiableMap" m_UM) (S_EMPTY_LIST : Sa1 Z (.ref st_EL)) (E_st_EL : Ex6 Z h0 st_EL) (F_st_EL_elements : Fd28 Z h0 st_EL (.ref el_EL)) (V_el_EL : Arv Z h0 el_EL k_el_EL (.object "java/lang/Object") (0 : Int32) [] .null) :
    LawM l Z ws p0 p1 p2 p3 h0 n0 := by
 refine own_bodyH (k := 28) (n := 355) (y := x) (Q := fun v _ L => Q_law n0 v L) (own_EW hw) (plainFor_of_name pn_BeanDefinitionGetScopePinLaw149) (ef_law p0 p1 p2 p3) (by decide) (by decide) ?_
 intro p e s m below meth c s₁ hx hby hml hown hnm hret hZ e0 hS0 hk0 X0 hC0 hSF0
 have N0 := Fr.nil n0
 obtain ⟨T1, h1, k1, X1, e1, E1, A1, st1⟩ := newP (aty := .char) X0 hx hZ (w1 hw) e0 (g := (mkF m 14 #[vi p0, vi p1, vi p2, vi p3, vi 2, vi 0, .unset, .unset, .unset, .unset, .unset, .unset] [(.int 2)])) rfl (hb hby at_14) rfl (by decide) (cap := 2) (by decide) (by decide) (by decide) (by decide)
 obtain ⟨b1, g1⟩ : ∃ z, z = h0.size := ⟨_, rfl⟩
 rw [← g1] at A1 st1
 have ge_b1 : h0.size ≤ b1 := Nat.le_of_eq g1.symm
 have K1 := KL.ofE E1
 have Ck0 := own_chK K1 na0 (CHr.refl hC0).1
 have Ah1 := (CHr.refl hC0).trans Ck0.1
 have V1 : Arv Z h1 b1 k1 .char 2 [z0, z0] z0 := (Arv.new A1 (by decide)).pad (pad_rep [] z0 2)
 obtain ⟨T2, h2, X2, e2, W2, V2, st2⟩ := own_astC X1 hx hZ e1 V1 (j := 0) (by decide) 0 rfl (Nat.le_of_ble_eq_true rfl) (g := (mkF m 32 #[vi p0, vi p1, vi p2, vi p3, vi 2, vi 0, vr b1, .unset, .unset, .unset, .unset, .unset] [(.int (own_c0 p2)), z0, (.ref b1)])) rfl rfl (hb hby at_32)
 rw [show (nar .char (own_c0 p2)) = (own_c0 p2) from (own_c2c (own_c0a p2) (own_c0b p2))] at V2
 have gg3 := Nat.le_trans Z0 ge_b1
 have K2 := KL.ofW W2
 have Ck1 := own_chK K2 (naF (Ck0.2 _ (Safe.new ge_b1)) na0) Ah1.1
 have Ah2 := Ah1.trans Ck1.1
 replace V2 : Arv Z h2 b1 k1 .char 2 [(.int (own_c0 p2)), z0] z0 := V2
 have N2 := Fr.snoc X2 N0 gg3
 obtain ⟨T4, h4, X4, e4, W4, V4, st4⟩ := own_astC X2 hx hZ e2 V2 (j := 1) (by decide) 1 rfl (Nat.le_of_ble_eq_true rfl) (g := (mkF m 42 #[vi p0, vi p1, vi p2, vi p3, vi 2, vi 0, vr b1, .unset, .unset, .unset, .unset, .unset] [(.int (p3 &&& (255 : Int32))), (.int 1), (.ref b1)])) rfl rfl (hb hby at_42)
 rw [show (nar .char (p3 &&& (255 : Int32))) = (p3 &&& (255 : Int32)) from (i2c_mask _)] at V4
 have K4 := KL.ofW W4
 have sf5 := (Ck1.2 _ (Ck0.2 _ (Safe.new ge_b1)))
 have Ck2 := own_chK K4 (naF sf5 na0) Ah2.1
 have Ah3 := Ah2.trans Ck2.1
 replace V4 : Arv Z h4 b1 k1 .char 2 [(.int (own_c0 p2)), (.int (p3 &&& (255 : Int32)))] z0 := V4
 have N4 := Fr.snoc X4 N2 gg3
 obtain ⟨T6, h6, X6, e6, E6, A6, D6, -, st6⟩ := newO X4 hx hZ hown (w2 hw) (w3 hw) (w4 hw) e4 (g := (mkF m 43 #[vi p0, vi p1, vi p2, vi p3, vi 2, vi 0, vr b1, .unset, .unset, .unset, .unset, .unset] [])) rfl (hb hby at_43) (by decide) (by decide)
 obtain ⟨b6, g6⟩ : ∃ z, z = h4.size := ⟨_, rfl⟩
 rw [← g6] at A6 D6 st6
 have ge_b6 : h4.size ≤ b6 := Nat.le_of_eq g6.symm
 have K6 := KL.ofE E6
 have Ck3 := own_chK K6 na0 Ah3.1
 have Ah4 := Ah3.trans Ck3.1
 have F_b6_coder : Fd3 Z h6 b6 z0 := D6 (Or.inr (w28 hw)) (ty := .byte) (by decide)
 have F_b6_value : Fd4 Z h6 b6 .null := D6 (Or.inr (w30 hw)) (ty := (.array .byte)) (by decide)
 have f8 := (kArv K6 V4 na0)
 have f9 := (kOld K6 (kOld K4 (kOld K2 (kOld K1 O0 na0) (naG gg3 na0)) (naG gg3 na0)) na0)
 have sz_0_2 := (Nat.le_trans K1.1 K2.1)
 have sz_0_3 := (Nat.le_trans sz_0_2 K4.1)
 have gg10 := Nat.le_trans Z0 (Nat.le_trans sz_0_3 ge_b6)
 have sz_0_4 := (Nat.le_trans sz_0_3 K6.1)
 obtain ⟨_, T7, L7, X7, hQ7, st7⟩ := own_init X6 hx hZ rfl hown (w5 hw) (w6 hw) (w4 hw) (w7 hw) (by decide) (r7__init_ l Z a0 hw [] b6 b1 (own_c0 p2) (p3 &&& (255 : Int32)) k1 cs h6 n0 (Nat.le_trans Z0 sz_0_4) f8 sCS F_b6_coder A6 F_b6_value f9 hcs (own_c0b p2) (own_m255b _) gg10) e6 (W := 1) (by decide) (g := (mkF m 49 #[vi p0, vi p1, vi p2, vi p3, vi 2, vi 0, vr b1, .unset, .unset, .unset, .unset, .unset] [(.ref b1), (.ref b6), (.ref b6)])) rfl hml.symm (argsL := [(.ref b1)]) (rest := [(.ref b6)]) (lenOf pd_8 rfl) rfl rfl (own_wr rfl rfl) (hb hby at_49)
 obtain ⟨b1_6_4_7, k1_6_4_7, rfl, N7q, K7, Q7_0, Q7_1, Q7_2, Q7_3⟩ := hQ7
 have N7 := Fr.app N4 N7q
 have Ck4 := own_chK K7 (naF (Ck3.2 _ (Safe.new ge_b6)) (naF (Ck3.2 _ (Safe.new ge_b6)) na0)) Ah4.1
 have Ah5 := Ah4.trans Ck4.1
 obtain ⟨T12, h12, X12, e12, E12, A12, D12, -, st12⟩ := newO X7 hx hZ hown (w31 hw) (w32 hw) (w33 hw) rfl (g := (mkF m 54 #[vi p0, vi p1, vi p2, vi p3, vi 2, vi 0, vr b1, vr b6, .unset, .unset, .unset, .unset] [])) rfl (hb hby at_54) (by decide) (by decide)
 obtain ⟨b12, g12⟩ : ∃ z, z = T7.heap.size := ⟨_, rfl⟩
 rw [← g12] at A12 D12 st12
 have ge_b12 : T7.heap.size ≤ b12 := Nat.le_of_eq g12.symm
 have K12 := KL.ofE E12
 have Ck5 := own_chK K12 na0 Ah5.1
 have Ah6 := Ah5.trans Ck5.1
 have F_b12_singleton : Fd5 Z h12 b12 z0 := D12 (Or.inl (w39 hw)) (ty := .boolean) (by decide)
 have F_b12_initMethodRequired : Fd6 Z h12 b12 z0 := D12 (Or.inl (w41 hw)) (ty := .boolean) (by decide)
 have F_b12_destroyMethodRequired : Fd7 Z h12 b12 z0 := D12 (Or.inl (w43 hw)) (ty := .boolean) (by decide)
 have F_b12_dependsOn : Fd8 Z h12 b12 .null := D12 (Or.inr (w69 hw)) (ty := (.object "java/util/List")) (by decide)
 have F_b12_autowireCandidate : Fd9 Z h12 b12 z0 := D12 (Or.inl (w71 hw)) (ty := .boolean) (by decide)
 have F_b12_autowireMode : Fd10 Z h12 b12 .null := D12 (Or.inl (w76 hw)) (ty := (.object "com/example/graft_container/graftcontainer/BeanDefinition$Autowire")) (by decide)
 have F_b12_qualifiers : Fd11 Z h12 b12 .null := D12 (Or.inr (w104 hw)) (ty := (.object "java/util/Map")) (by decide)
 have F_b12_propertyValues : Fd12 Z h12 b12 .null := D12 (Or.inr (w106 hw)) (ty := (.object "java/util/List")) (by decide)
 have F_b12_constructorArguments : Fd13 Z h12 b12 .null := D12 (Or.inr (w108 hw)) (ty := (.object "java/util/List")) (by decide)
 have F_b12_dependsOnView : Fd14 Z h12 b12 .null := D12 (Or.inr (w153 hw)) (ty := (.object "java/util/List")) (by decide)
 have F_b12_qualifiersView : Fd15 Z h12 b12 .null := D12 (Or.inr (w174 hw)) (ty := (.object "java/util/Map")) (by decide)
 have F_b12_propertyValuesView : Fd16 Z h12 b12 .null := D12 (Or.inr (w176 hw)) (ty := (.object "java/util/List")) (by decide)
 have F_b12_constructorArgumentsView : Fd17 Z h12 b12 .null := D12 (Or.inr (w178 hw)) (ty := (.object "java/util/List")) (by decide)
 have F_b12_changeListeners : Fd18 Z h12 b12 .null := D12 (Or.inl (w186 hw)) (ty := (.object "java/util/List")) (by decide)
 have F_b12_outers : Fd19 Z h12 b12 .null := D12 (Or.inl (w188 hw)) (ty := (.object "java/util/List")) (by decide)
 have F_b12_frozen : Fd20 Z h12 b12 z0 := D12 (Or.inl (w203 hw)) (ty := .boolean) (by decide)
 have F_b12_parentName : Fd21 Z h12 b12 .null := D12 (Or.inl (w310 hw)) (ty := (.object "java/lang/String")) (by decide)
 have F_b12_scope : Fd22 Z h12 b12 .null := D12 (Or.inl (w322 hw)) (ty := (.object "java/lang/String")) (by decide)
 have sz_0_5 := (Nat.le_trans sz_0_4 K7.1)
 have gg14 := Nat.le_trans Z0 (Nat.le_trans sz_0_5 ge_b12)
 have f15 := (kOld K12 (kOld K7 f9 (naG gg10 (naG gg10 na0))) na0)
 have sz_0_6 := (Nat.le_trans sz_0_5 K12.1)
 obtain ⟨_, T13, L13, X13, hQ13, st13⟩ := own_init X12 hx hZ rfl hown (w34 hw) (w35 hw) (w33 hw) (w36 hw) (by decide) (r12__init_ l Z a0 hw [] b12 st_DC st_NO m_AL m_UL m_UR m_LM m_UM st_EL h12 n0 (Nat.le_trans Z0 sz_0_6) F_b12_singleton A12 gg14 F_b12_initMethodRequired F_b12_destroyMethodRequired S_DEFAULTCAPACITY_EMPTY_ELEMENTDATA f15 F_b12_dependsOn F_b12_autowireCandidate S_NO F_b12_autowireMode F_b12_qualifiers F_b12_propertyValues F_b12_constructorArguments M_java_util_ArrayList M_java_util_Collections_UnmodifiableList M_java_util_Collections_UnmodifiableRandomAccessList F_b12_dependsOnView M_java_util_LinkedHashMap M_java_util_Collections_UnmodifiableMap F_b12_qualifiersView F_b12_propertyValuesView F_b12_constructorArgumentsView S_EMPTY_LIST F_b12_changeListeners F_b12_outers) e12 (W := 1) (by decide) (g := (mkF m 58 #[vi p0, vi p1, vi p2, vi p3, vi 2, vi 0, vr b1, vr b6, .unset, .unset, .unset, .unset] [(.ref b12), (.ref b12)])) rfl hml.symm (argsL := []) (rest := [(.ref b12)]) (lenOf pd_9 rfl) rfl rfl (own_wr rfl rfl) (hb hby at_58)
 obtain ⟨b9_13, b27_13, b34_13, b42_13, r_55_13, r_64_13, r_71_13, r_78_13, rfl, N13q, K13, Q13_0, Q13_1, Q13_2, Q13_3, Q13_4, Q13_5, Q13_6, Q13_7, Q13_8, Q13_9, Q13_10, Q13_11, Q13_12, Q13_13, Q13_14, Q13_15, Q13_16, Q13_17, Q13_18, Q13_19, Q13_20, Q13_21, Q13_22⟩ := hQ13
 have N13 := Fr.app N7 N13q
 have Ck6 := own_chK K13 (naFM 15 rfl (Safe.exa hZ.alike A12 (by decide) (by decide)) na0) Ah6.1
 have Ah7 := Ah6.trans Ck6.1
 have sz_0_7 := (Nat.le_trans sz_0_6 K13.1)
 obtain ⟨c16, T16, h16, k16, b16, kb16, X16, e16, E16, hS16, hk16, hZ16, hown16, Ex16, Fc16, Fv16, Ar16, lta16, ltb16, hC16, Lt16, hne16, st16⟩ := ldcCH X13 hx hZ hown (w336 hw) (own_wS hw) rfl hS0 (Nat.le_trans hk0 sz_0_7) (own_EW hw) (by decide) Ah7.1 (vs := [(.int 112), (.int 114), (.int 111), (.int 116), (.int 111), (.int 116), (.int 121), (.int 112), (.int 101)]) (z := 9) ⟨by decide, rfl⟩ (by decide) rfl (g := (mkF m 118 #[vi p0, vi p1, vi p2, vi p3, vi 2, vi 0, vr b1, vr b6, vr b12, .unset, .unset, .unset] [(.ref b12)])) rfl (hb hby at_118) (n := 36) (by decide) (by decide) (by decide) (by decide)
 have K16 := KL.ofE E16
 have Ah8 := Ah7.trans hC16
 have f18 := (kExa K16 (kExa K13 A12))
 have f19 := (kFld K16 (kFld K13 F_b12_frozen (nwf_2 hw b12)) nw0)
 have f20 := (kFld K16 Q13_22 nw0)
 have f21 := (kExa K16 (kExa K13 (kExa K12 (kExa K7 (kExa K6 (kExa K4 (kExa K2 (kExa K1 E_st_EL))))))))
 have lt_st_EL : st_EL < h0.size := Exa.lt E_st_EL
 have ne22 := lt_ne lt_st_EL ge_b1
 have ne23 := lt_ne (Nat.lt_of_lt_of_le lt_st_EL sz_0_3) ge_b6
 have ne24 := lt_ne (Nat.lt_of_lt_of_le lt_st_EL sz_0_5) ge_b12
 have f25 := (kFld K16 (kFld K13 (kFld K12 (kFld K7 (kFld K6 (kFld K4 (kFld K2 (kFld K1 F_st_EL_elements nw0) (nwL ne22 nw0)) (nwL ne22 nw0)) nw0) (nwL ne23 (nwL ne23 nw0))) nw0) (nwM 15 rfl ne24 nw0)) nw0)
 have lt_el_EL : el_EL < h0.size := Arv.lt V_el_EL
 have ne26 := lt_ne lt_el_EL ge_b1
 have ne27 := lt_ne (Nat.lt_of_lt_of_le lt_el_EL sz_0_3) ge_b6
 have ne28 := lt_ne (Nat.lt_of_lt_of_le lt_el_EL sz_0_5) ge_b12
 have f29 := (kArv K16 (kArv K13 (kArv K12 (kArv K7 (kArv K6 (kArv K4 (kArv K2 (kArv K1 V_el_EL na0) (naN (Ne.symm ne26) na0)) (naN (Ne.symm ne26) na0)) na0) (naN (Ne.symm ne27) (naN (Ne.symm ne27) na0))) na0) (naNM 15 rfl (Ne.symm ne28) na0)) na0)
 have f30 := (kFld K16 Q13_21 nw0)
 have f31 := (kOld K16 (kOld K13 f15 (naGM 15 rfl gg14 na0)) na0)
 have f32 := (kFld K16 (kFld K13 F_b12_scope (nwf_0 hw b12)) nw0)
 have f33 := (kFld K16 Q13_8 nw0)
 have sz_0_8 := (Nat.le_trans sz_0_7 K16.1)
 obtain ⟨_, T17, L17, X17, hS17, hk17, hZ17, hown17, hQ17, hC17, st17⟩ := own_Hvirtual X16 hx hZ16 hown16 (w330 hw) (w331 hw) (nfS hZ16 (w333 hw)) (w333 hw) (w332 hw) (w33 hw) (w334 hw) (by decide) (r50_setScope l Z a0 hw [] b12 c16 st_EL el_EL k_el_EL cs b16 kb16 h16 n0 (Nat.le_trans Z0 sz_0_8) f18 f19 f20 f21 f25 f29 f30 Ex16 sCS Fc16 Fv16 Ar16 f31 hcs f32 gg14 f33) e16 f18 (W := 0) (by decide) (g := (mkF m 120 #[vi p0, vi p1, vi p2, vi p3, vi 2, vi 0, vr b1, vr b6, vr b12, .unset, .unset, .unset] [(.ref c16), (.ref b12)])) rfl hml.symm (argsL := [(.ref c16)]) (rest := []) (lenOf pd_25 rfl) rfl rfl (own_wr rfl rfl) (hb hby at_120) hS16 hk16 (own_EW hw) Ah8.1 sf0
 obtain ⟨c27_17, b27_17, kb27_17, rfl, N17q, K17, Q17_0, Q17_1, Q17_2, Q17_3, Q17_4, Q17_5, Q17_6, Q17_7⟩ := hQ17
 have N17 := Fr.app N13 N17q
 have Ah9 := Ah8.trans hC17
 have sz_0_9 := (Nat.le_trans sz_0_8 K17.1)
 have f35 := (kExa K17 f18)
 obtain ⟨_, T34, L34, X34, hQ34, st34⟩ := own_virtual X17 hx hZ17 hown17 (w328 hw) (w317 hw) (nfS hZ17 (w319 hw)) (w319 hw) (w318 hw) (w33 hw) (w320 hw) (by decide) (r47_getScope l Z a0 hw [] b12 c27_17 T17.heap n0 (Nat.le_trans Z0 sz_0_9) Q17_2) rfl f35 (W := 0) (by decide) (g := (mkF m 157 #[vi p0, vi p1, vi p2, vi p3, vi 2, vi 0, vr b1, vr b6, vr b12, vi 0, .unset, .unset] [(.ref b12)])) rfl hml.symm (argsL := []) (rest := []) (lenOf pd_13 rfl) rfl rfl (own_wr rfl rfl) (hb hby at_157)
 obtain ⟨rfl, N34q, e34⟩ := hQ34
 have N34 := Fr.app N17 N34q
 obtain ⟨c36, T36, h36, k36, b36, kb36, X36, e36, E36, hS36, hk36, hZ36, hown36, Ex36, Fc36, Fv36, Ar36, lta36, ltb36, hC36, Lt36, hne36, st36⟩ := ldcCH X34 hx hZ17 hown17 (w336 hw) (own_wS hw) e34 hS17 hk17 (own_EW hw) (by decide) Ah9.1 (vs := [(.int 112), (.int 114), (.int 111), (.int 116), (.int 111), (.int 116), (.int 121), (.int 112), (.int 101)]) (z := 9) ⟨by decide, rfl⟩ (by decide) rfl (g := (mkF m 181 #[vi p0, vi p1, vi p2, vi p3, vi 2, vi 0, vr b1, vr b6, vr b12, vi 0, vr c27_17, .unset] [])) rfl (hb hby at_181) (n := 36) (by decide) (by decide) (by decide) (by decide)
 have K36 := KL.ofE E36
 have Ah10 := Ah9.trans hC36
 have f38 := (kExa K36 Q17_4)
 have f39 := (kOld K36 (kOld K17 f31 (naG gg14 (naG gg14 na0))) na0)
 have f40 := (kFld K36 Q17_5 nw0)
 have f41 := (kFld K36 Q17_6 nw0)
 have f42 := (kArv K36 Q17_7 na0)
 have sz_0_10 := (Nat.le_trans sz_0_9 K36.1)
 obtain ⟨_, T37, L37, X37, hQ37, st37⟩ := own_virtual X36 hx hZ36 hown36 (w335 hw) (w324 hw) (nfS hZ36 (w326 hw)) (w326 hw) (w325 hw) (w4 hw) (w327 hw) (by decide) (r_eqp l Z a0 hw [] c36 c27_17 b36 b27_17 cs kb36 kb27_17 h36 n0 (Nat.le_trans Z0 sz_0_10) hcs f38 sCS f39 Fc36 f40 Fv36 f41 Ar36 f42) e36 Ex36 (W := 0) (by decide) (g := (mkF m 228 #[vi p0, vi p1, vi p2, vi p3, vi 2, vi 0, vr b1, vr b6, vr b12, vi 0, vr c27_17, vr c36] [(.ref c27_17), (.ref c36)])) rfl hml.symm (argsL := [(.ref c27_17)]) (rest := []) (lenOf pd_14 rfl) rfl rfl (own_wr rfl rfl) (hb hby at_228)
 obtain ⟨rfl, N37q, e37⟩ := hQ37
 have N37 := Fr.app N34 N37q
 refine ⟨T37, _, some (.int 1), _, _, X37, hS36, (by rw [e37]; exact hk36), (fun h => by cases h <;> rfl), ?_, (by rw [e37]; exact Ah10), hZ36, fun fs hr => ?_⟩
 · show Q_law n0 _ _
   exact ⟨rfl, N37⟩
 refine t_iloadN 1 X0.here hx hby at_0 rfl rfl ?_
 refine X0.ldcInt hx hown (mvT hZ (w0 hw)) (g := (mkF m 1 #[vi p0, vi p1, vi p2, vi p3, .unset, .unset, .unset, .unset, .unset, .unset, .unset, .unset] [(.int p0)])) rfl (hb hby at_1) _ ?_
 refine t_iand 4 X0.here hx hby at_3 rfl rfl ?_
 refine t_iconst 5 (r := 3) X0.here hx hby at_4 (by decide) rfl ?_
 refine t_irem 6 (r := 2) X0.here hx hby at_5 (by decide) hs rfl ?_
 refine t_istore (pc' := 8) (L' := #[vi p0, vi p1, vi p2, vi p3, vi 2, .unset, .unset, .unset, .unset, .unset, .unset, .unset]) X0.here hx hby at_6 rfl rfl ?_
 refine t_iloadN 9 X0.here hx hby at_8 rfl rfl ?_
 refine t_iconst 10 (r := 3) X0.here hx hby at_9 (by decide) rfl ?_
 refine t_iand 11 (r := 0) X0.here hx hby at_10 hpm rfl ?_
 refine t_istore (pc' := 13) (L' := #[vi p0, vi p1, vi p2, vi p3, vi 2, vi 0, .unset, .unset, .unset, .unset, .unset, .unset]) X0.here hx hby at_11 rfl rfl ?_
 refine t_iconst 14 (r := 2) X0.here hx hby at_13 (by decide) rfl ?_
 refine st1 _ ?_
 refine t_astore (pc' := 18) (L' := #[vi p0, vi p1, vi p2, vi p3, vi 2, vi 0, vr b1, .unset, .unset, .unset, .unset, .unset]) X1.here hx hby at_16 rfl rfl rfl ?_
 refine t_aload 20 X1.here hx hby at_18 rfl rfl rfl ?_
 refine t_iconst 21 (r := 0) X1.here hx hby at_20 (by decide) rfl ?_
 refine t_bipush 23 (r := 33) X1.here hx hby at_21 (by decide) rfl ?_
 refine t_iloadN 24 X1.here hx hby at_23 rfl rfl ?_
 refine X1.ldcInt hx hown (mvT hZ (w0 hw)) (g := (mkF m 24 #[vi p0, vi p1, vi p2, vi p3, vi 2, vi 0, vr b1, .unset, .unset, .unset, .unset, .unset] [(.int p2), (.int 33), z0, (.ref b1)])) rfl (hb hby at_24) _ ?_
 refine t_iand 27 X1.here hx hby at_26 rfl rfl ?_
 refine t_bipush 29 (r := 94) X1.here hx hby at_27 (by decide) rfl ?_
 refine t_irem 30 X1.here hx hby at_29 (by decide) rfl rfl ?_
 refine t_iadd 31 (r := (own_c0 p2)) X1.here hx hby at_30 (Eq.refl (own_c0 p2)) rfl ?_
 refine t_i2c 32 (r := (own_c0 p2)) X1.here hx hby at_31 (own_c2c (own_c0a p2) (own_c0b p2)) rfl ?_
 refine st2 _ ?_
 refine t_aload 35 X2.here hx hby at_33 rfl rfl rfl ?_
 refine t_iconst 36 (r := 1) X2.here hx hby at_35 (by decide) rfl ?_
 refine t_iloadN 37 X2.here hx hby at_36 rfl rfl ?_
 refine t_sipush 40 (r := 255) X2.here hx hby at_37 (by decide) rfl ?_
 refine t_iand 41 X2.here hx hby at_40 rfl rfl ?_
 refine t_i2c 42 (r := (p3 &&& (255 : Int32))) X2.here hx hby at_41 (i2c_mask _) rfl ?_
 refine st4 _ ?_
 refine st6 _ ?_
 refine t_dup 47 X6.here hx hby at_46 rfl rfl ?_
 refine t_aload 49 X6.here hx hby at_47 rfl rfl rfl ?_
 refine st7 _ ?_
 refine t_astore (pc' := 54) (L' := #[vi p0, vi p1, vi p2, vi p3, vi 2, vi 0, vr b1, vr b6, .unset, .unset, .unset, .unset]) X7.here hx hby at_52 rfl rfl rfl ?_
 refine st12 _ ?_
 refine t_dup 58 X12.here hx hby at_57 rfl rfl ?_
 refine st13 _ ?_
 refine t_astore (pc' := 63) (L' := #[vi p0, vi p1, vi p2, vi p3, vi 2, vi 0, vr b1, vr b6, vr b12, .unset, .unset, .unset]) X13.here hx hby at_61 rfl rfl rfl ?_
 refine t_iload 65 X13.here hx hby at_63 rfl rfl ?_
 refine t_iconst 66 (r := 1) X13.here hx hby at_65 (by decide) rfl ?_
 refine t_icmpNo 69 X13.here hx hby at_66 (by decide) rfl ?_
 refine t_iload 71 X13.here hx hby at_69 rfl rfl ?_
 refine t_iconst 72 (r := 2) X13.here hx hby at_71 (by decide) rfl ?_
 refine t_icmpYes (pc := 72) 82 X13.here hx hby at_72 (by decide) (by decide) (by decide) ?_
 refine t_iload 84 X13.here hx hby at_82 rfl rfl ?_
 refine t_iconst 85 (r := 2) X13.here hx hby at_84 (by decide) rfl ?_
 refine t_icmpYes (pc := 85) 94 X13.here hx hby at_85 (by decide) (by decide) (by decide) ?_
 refine t_iload 96 X13.here hx hby at_94 rfl rfl ?_
 refine t_iconst 97 (r := 1) X13.here hx hby at_96 (by decide) rfl ?_
 refine t_icmpYes (pc := 97) 110 X13.here hx hby at_97 (by decide) (by decide) (by decide) ?_
 refine t_iload 112 X13.here hx hby at_110 rfl rfl ?_
 refine t_iconst 113 (r := 2) X13.here hx hby at_112 (by decide) rfl ?_
 refine t_icmpNo 116 X13.here hx hby at_113 (by decide) rfl ?_
 refine t_aload 118 X13.here hx hby at_116 rfl rfl rfl ?_
 refine st16 _ ?_
 refine st17 _ ?_
 refine t_iload 125 X17.here hx hby at_123 rfl rfl ?_
 refine t_iconst 126 (r := 3) X17.here hx hby at_125 (by decide) rfl ?_
 refine t_icmpYes (pc := 126) 136 X17.here hx hby at_126 (by decide) (by decide) (by decide) ?_
 refine t_iload 138 X17.here hx hby at_136 rfl rfl ?_
 refine t_iconst 139 (r := 1) X17.here hx hby at_138 (by decide) rfl ?_
 refine t_icmpNo 142 X17.here hx hby at_139 (by decide) rfl ?_
 refine t_iload 144 X17.here hx hby at_142 rfl rfl ?_
 refine t_iconst 145 (r := 3) X17.here hx hby at_144 (by decide) rfl ?_
 refine t_icmpYes (pc := 145) 152 X17.here hx hby at_145 (by decide) (by decide) (by decide) ?_
 refine t_iconst 153 (r := 0) X17.here hx hby at_152 (by decide) rfl ?_
 refine t_istore (pc' := 155) (L' := #[vi p0, vi p1, vi p2, vi p3, vi 2, vi 0, vr b1, vr b6, vr b12, vi 0, .unset, .unset]) X17.here hx hby at_153 rfl rfl ?_
 refine t_aload 157 X17.here hx hby at_155 rfl rfl rfl ?_
 refine st34 _ ?_
 refine t_astore (pc' := 162) (L' := #[vi p0, vi p1, vi p2, vi p3, vi 2, vi 0, vr b1, vr b6, vr b12, vi 0, vr c27_17, .unset]) X34.here hx hby at_160 rfl rfl rfl ?_
 refine t_iload 164 X34.here hx hby at_162 rfl rfl ?_
 refine t_iconst 165 (r := 1) X34.here hx hby at_164 (by decide) rfl ?_
 refine t_icmpYes (pc := 165) 175 X34.here hx hby at_165 (by decide) (by decide) (by decide) ?_
 refine t_iload 177 X34.here hx hby at_175 rfl rfl ?_
 refine t_iconst 178 (r := 2) X34.here hx hby at_177 (by decide) rfl ?_
 refine t_icmpNo 181 X34.here hx hby at_178 (by decide) rfl ?_
 refine st36 _ ?_
 refine t_astore (pc' := 185) (L' := #[vi p0, vi p1, vi p2, vi p3, vi 2, vi 0, vr b1, vr b6, vr b12, vi 0, vr c27_17, vr c36]) X36.here hx hby at_183 rfl rfl rfl ?_
 refine t_goto (pc := 185) 203 X36.here hx hby at_185 (by decide) (by decide) ?_
 refine t_aload 205 X36.here hx hby at_203 rfl rfl rfl ?_
 refine t_ifnonnullYes (pc := 205) 219 X36.here hx hby at_205 (by decide) (by decide) ?_
 refine t_aload 221 X36.here hx hby at_219 rfl rfl rfl ?_
 refine t_ifnullNo 224 X36.here hx hby at_221 rfl ?_
 refine t_aload 226 X36.here hx hby at_224 rfl rfl rfl ?_
 refine t_aload 228 X36.here hx hby at_226 rfl rfl rfl ?_
 refine st37 _ ?_
 refine t_ifNo 234 X37.here hx hby at_231 (by decide) rfl ?_
 refine t_iconst 235 (r := 1) X37.here hx hby at_234 (by decide) rfl ?_
 refine t_goto (pc := 235) 239 X37.here hx hby at_235 (by decide) (by decide) ?_
 exact retN X37 hx (t := .boolean) hret (by simp) (hb hby at_239) hr
def WS_r54_setScope (Z : State) (o0 : Addr) : List (Addr × Nat) := [(o0, (sl22 Z)), (o0, (sl5 Z))]
def Q_r54_setScope (Z : State) (o0 o1 o_1 o_2 : Addr) (k_o_2 : ClassId) (i_5 : Int32) (o_6 : Addr) (k_o_6 : ClassId) (h0 : Heap) (n0 : Nat) (v : Option Value) (h : Heap) (L : List Loc) : Prop := ∃ c27 : Addr, ∃ b27 : Addr, ∃ kb27 : ClassId, v = none ∧ Fr n0 L ∧ KL h0 h (WS_r54_setScope Z o0) ∧ c27 < h.size ∧ b27 < h.size ∧ Fd22 Z h o0 (.ref c27) ∧ Fd5 Z h o0 z0 ∧ Ex4 Z h c27 ∧ Fd3 Z h c27 z0 ∧ Fd4 Z h c27 (.ref b27) ∧ Arv Z h b27 kb27 .byte 9 [(.int 112), (.int 114), (.int 111), (.int 116), (.int 111), (.int 116), (.int 121), (.int 112), (.int 101)] z0
theorem r54_setScope (l : Launch) (Z : State) (a0 : Array Value) (hw : HW Z a0) (ws : List Jvm.Cond) (o0 o1 o_1 o_2 : Addr) (k_o_2 : ClassId) (i_5 : Int32) (o_6 : Addr) (k_o_6 : ClassId) (h0 : Heap) (n0 : Nat) (Z0 : n0 ≤ h0.size) (E_o0 : Ex5 Z h0 o0) (F_o0_frozen : Fd20 Z h0 o0 z0) (F_o0_outers : Fd19 Z h0 o0 (.ref o_1)) (E_o_1 : Ex6 Z h0 o_1) (F_o_1_elements : Fd28 Z h0 o_1 (.ref o_2)) (V_o_2 : Arv Z h0 o_2 k_o_2 (.object "java/lang/Object") (0 : Int32) [] .null) (F_o0_changeListeners : Fd18 Z h0 o0 (.ref o_1)) (E_o1 : Ex4 Z h0 o1) (sCS : SCS Z i_5) (F_o1_coder : Fd3 Z h0 o1 z0) (F_o1_value : Fd4 Z h0 o1 (.ref o_6)) (V_o_6 : Arv Z h0 o_6 k_o_6 .byte 9 [(.int 112), (.int 114), (.int 111), (.int 116), (.int 111), (.int 116), (.int 121), (.int 112), (.int 101)] z0) (O0 : Old Z n0 h0) (hp0 : ¬ (i_5 = (0 : Int32))) (F_o0_scope : Fd22 Z h0 o0 .null) (g_o0 : n0 ≤ o0) (F_o0_singleton : Fd5 Z h0 o0 z0) :
    OMH l Z consts_1 [] y41_setScope b41_ 2 none ws ⟨5, 12, 208, 66⟩ #[(.ref o0), (.ref o1)] h0 (Q_r54_setScope Z o0 o1 o_1 o_2 k_o_2 i_5 o_6 k_o_6 h0 n0) := by
 refine own_bodyH (k := 12) (n := 208) (own_EW hw) (plainFor_of_name pn_BeanDefinition762) (ef_0 o0 o1) (by decide) (by decide) ?_
 intro p e s m below meth c s₁ hx hby hml hown hnm hret hZ e0 hS0 hk0 X0 hC0 hSF0
 have N0 := Fr.nil n0
 obtain ⟨_, T3, L3, X3, hQ3, st3⟩ := own_private X0 hx hZ hown (w194 hw) (w195 hw) (w192 hw) rfl (w196 hw) (w33 hw) (w197 hw) (by decide) (r22_beginChange l Z a0 hw [] o0 o_1 o_2 k_o_2 h0 n0 Z0 E_o0 F_o0_frozen F_o0_outers E_o_1 F_o_1_elements V_o_2 F_o0_changeListeners) e0 E_o0 (W := 0) (by decide) (g := (mkF m 1 #[vr o0, vr o1] [(.ref o0)])) rfl hml.symm (argsL := []) (rest := []) (lenOf pd_9 rfl) rfl rfl (own_wr rfl rfl) (hb hby d472)
 obtain ⟨rfl, N3q, K3⟩ := hQ3
 have N3 := Fr.app N0 N3q
 have Ck0 := own_chK K3 na0 (CHr.refl hC0).1
 have Ah1 := (CHr.refl hC0).trans Ck0.1
 obtain ⟨c4, T4, h4, k4, b4, kb4, X4, e4, E4, hS4, hk4, hZ4, hown4, Ex4, Fc4, Fv4, Ar4, lta4, ltb4, hC4, Lt4, hne4, st4⟩ := ldcCH X3 hx hZ hown (w315 hw) (own_wS hw) rfl hS0 (Nat.le_trans hk0 K3.1) (own_EW hw) (by decide) Ah1.1 (vs := [(.int 115), (.int 105), (.int 110), (.int 103), (.int 108), (.int 101), (.int 116), (.int 111), (.int 110)]) (z := 9) ⟨by decide, rfl⟩ (by decide) rfl (g := (mkF m 4 #[vr o0, vr o1] [])) rfl (hb hby d473) (n := 36) (by decide) (by decide) (by decide) (by decide)
 have K4 := KL.ofE E4
 have Ah2 := Ah1.trans hC4
 have f8 := (kFld K4 (kFld K3 F_o1_value nw0) nw0)
 have f9 := (kArv K4 (kArv K3 V_o_6 na0) na0)
 have f10 := (kExa K4 (kExa K3 E_o1))
 have f11 := (kOld K4 (kOld K3 O0 na0) na0)
 have f12 := (kFld K4 (kFld K3 F_o1_coder nw0) nw0)
 have sz_0_2 := (Nat.le_trans K3.1 K4.1)
 obtain ⟨_, T7, L7, X7, hQ7, st7⟩ := own_virtual X4 hx hZ4 hown4 (w323 hw) (w324 hw) (nfS hZ4 (w326 hw)) (w326 hw) (w325 hw) (w4 hw) (w327 hw) (by decide) (r51_equals l Z a0 hw [] c4 o1 i_5 b4 o_6 kb4 k_o_6 h4 n0 (Nat.le_trans Z0 sz_0_2) (own_sne Fv4 f8 (own_arne Ar4 f9 (i := 0) (Nat.le_of_ble_eq_true rfl) (by decide))) f10 sCS f11 hp0 Fc4 f12 Fv4 f8 Ar4 f9) e4 Ex4 (W := 0) (by decide) (g := (mkF m 7 #[vr o0, vr o1] [(.ref o1), (.ref c4)])) rfl hml.symm (argsL := [(.ref o1)]) (rest := []) (lenOf pd_14 rfl) rfl rfl (own_wr rfl rfl) (hb hby d475)
 obtain ⟨rfl, N7q, e7⟩ := hQ7
 have N7 := Fr.app N3 N7q
 obtain ⟨c13, T13, h13, k13, b13, kb13, X13, e13, E13, hS13, hk13, hZ13, hown13, Ex13, Fc13, Fv13, Ar13, lta13, ltb13, hC13, Lt13, hne13, st13⟩ := ldcCH X7 hx hZ4 hown4 (w341 hw) (own_wS hw) e7 hS4 hk4 (own_EW hw) (by decide) Ah2.1 (vs := [(.int 112), (.int 114), (.int 111), (.int 116), (.int 111), (.int 116), (.int 121), (.int 112), (.int 101)]) (z := 9) ⟨by decide, rfl⟩ (by decide) rfl (g := (mkF m 13 #[vr o0, vr o1] [])) rfl (hb hby d496) (n := 36) (by decide) (by decide) (by decide) (by decide)
 have K13 := KL.ofE E13
 have Ah3 := Ah2.trans hC13
 have f15 := (kExa K13 f10)
 have f16 := (kOld K13 f11 na0)
 have f17 := (kFld K13 f12 nw0)
 have f18 := (kFld K13 f8 nw0)
 have f19 := (kArv K13 f9 na0)
 have sz_0_3 := (Nat.le_trans sz_0_2 K13.1)
 obtain ⟨_, T14, L14, X14, hQ14, st14⟩ := own_virtual X13 hx hZ13 hown13 (w323 hw) (w324 hw) (nfS hZ13 (w326 hw)) (w326 hw) (w325 hw) (w4 hw) (w327 hw) (by decide) (r_eqp l Z a0 hw [] c13 o1 b13 o_6 i_5 kb13 k_o_6 h13 n0 (Nat.le_trans Z0 sz_0_3) hp0 f15 sCS f16 Fc13 f17 Fv13 f18 Ar13 f19) e13 Ex13 (W := 0) (by decide) (g := (mkF m 16 #[vr o0, vr o1] [(.ref o1), (.ref c13)])) rfl hml.symm (argsL := [(.ref o1)]) (rest := []) (lenOf pd_14 rfl) rfl rfl (own_wr rfl rfl) (hb hby d498)
 obtain ⟨rfl, N14q, e14⟩ := hQ14
 have N14 := Fr.app N7 N14q
 obtain ⟨c20, T20, h20, k20, b20, kb20, X20, e20, E20, hS20, hk20, hZ20, hown20, Ex20, Fc20, Fv20, Ar20, lta20, ltb20, hC20, Lt20, hne20, st20⟩ := ldcCH X14 hx hZ13 hown13 (w315 hw) (own_wS hw) e14 hS13 hk13 (own_EW hw) (by decide) Ah3.1 (vs := [(.int 115), (.int 105), (.int 110), (.int 103), (.int 108), (.int 101), (.int 116), (.int 111), (.int 110)]) (z := 9) ⟨by decide, rfl⟩ (by decide) rfl (g := (mkF m 37 #[vr o0, vr o1] [(.ref o0)])) rfl (hb hby d478) (n := 36) (by decide) (by decide) (by decide) (by decide)
 have K20 := KL.ofE E20
 have Ah4 := Ah3.trans hC20
 have f22 := (kFld K20 f18 nw0)
 have f23 := (kArv K20 f19 na0)
 have f24 := (kExa K20 f15)
 have f25 := (kOld K20 f16 na0)
 have f26 := (kFld K20 f17 nw0)
 have sz_0_4 := (Nat.le_trans sz_0_3 K20.1)
 obtain ⟨_, T21, L21, X21, hQ21, st21⟩ := own_virtual X20 hx hZ20 hown20 (w323 hw) (w324 hw) (nfS hZ20 (w326 hw)) (w326 hw) (w325 hw) (w4 hw) (w327 hw) (by decide) (r51_equals l Z a0 hw [] c20 o1 i_5 b20 o_6 kb20 k_o_6 h20 n0 (Nat.le_trans Z0 sz_0_4) (own_sne Fv20 f22 (own_arne Ar20 f23 (i := 0) (Nat.le_of_ble_eq_true rfl) (by decide))) f24 sCS f25 hp0 Fc20 f26 Fv20 f22 Ar20 f23) e20 Ex20 (W := 1) (by decide) (g := (mkF m 40 #[vr o0, vr o1] [(.ref o1), (.ref c20), (.ref o0)])) rfl hml.symm (argsL := [(.ref o1)]) (rest := [(.ref o0)]) (lenOf pd_14 rfl) rfl rfl (own_wr rfl rfl) (hb hby d480)
 obtain ⟨rfl, N21q, e21⟩ := hQ21
 have N21 := Fr.app N14 N21q
 obtain ⟨c27, T27, h27, k27, b27, kb27, X27, e27, E27, hS27, hk27, hZ27, hown27, Ex27, Fc27, Fv27, Ar27, lta27, ltb27, hC27, Lt27, hne27, st27⟩ := ldcCH X21 hx hZ20 hown20 (w341 hw) (own_wS hw) e21 hS20 hk20 (own_EW hw) (by decide) Ah4.1 (vs := [(.int 112), (.int 114), (.int 111), (.int 116), (.int 111), (.int 116), (.int 121), (.int 112), (.int 101)]) (z := 9) ⟨by decide, rfl⟩ (by decide) rfl (g := (mkF m 51 #[vr o0, vr o1] [(.ref o0)])) rfl (hb hby d500) (n := 36) (by decide) (by decide) (by decide) (by decide)
 have K27 := KL.ofE E27
 have Ah5 := Ah4.trans hC27
 have f28 := (kFld K27 (kFld K20 (kFld K13 (kFld K4 (kFld K3 F_o0_scope nw0) nw0) nw0) nw0) nw0)
 have f29 := (kExa K27 (kExa K20 (kExa K13 (kExa K4 (kExa K3 E_o0)))))
 obtain ⟨T30, h30, X30, e30, W30, st30⟩ := putF X27 hx hZ27 hown27 (host := "") (Or.inl (w321 hw)) Via.refl e27 f28 f29 (Or.inl (w322 hw)) (w32 hw) (ty := (.object "java/lang/String")) (by decide) rfl rfl (g := (mkF m 53 #[vr o0, vr o1] [(.ref c27), (.ref o0)])) rfl rfl (hb hby d484)
 have K30 := KL.ofW W30
 have Ck5 := own_chK K30 (naF (Safe.exa hZ27.alike f29 (by decide) (by decide)) na0) Ah5.1
 have Ah6 := Ah5.trans Ck5.1
 have Fw30 : Fd22 Z h30 o0 (.ref c27) := Fld.same W30 f28
 have N30 := Fr.snoc X30 N21 g_o0
 have f32 := (kExa K30 f29)
 have f33 := (kExa K30 Ex27)
 have lt_o0 : o0 < h0.size := Exa.lt E_o0
 have sf34 := (CHr.safe hC27 (Nat.lt_of_lt_of_le lt_o0 sz_0_4) (CHr.safe hC20 (Nat.lt_of_lt_of_le lt_o0 sz_0_3) (CHr.safe hC13 (Nat.lt_of_lt_of_le lt_o0 sz_0_2) (CHr.safe hC4 (Nat.lt_of_lt_of_le lt_o0 K3.1) (Ck0.2 _ (Safe.exa (by first | exact hZ.alike | assumption) E_o0 (by decide) (by decide)))))))
 have f35 := (kFld K30 Fc27 (nwL (Ne.symm (hne27 _ sf34).1) nw0))
 have f36 := (kFld K30 Fv27 (nwL (Ne.symm (hne27 _ sf34).1) nw0))
 have f37 := (kArv K30 Ar27 (naN (hne27 _ sf34).2 na0))
 have f38 := (kOld K30 (kOld K27 f25 na0) (naG g_o0 na0))
 have sz_0_5 := (Nat.le_trans sz_0_4 K27.1)
 have sz_0_6 := (Nat.le_trans sz_0_5 K30.1)
 obtain ⟨_, T31, L31, X31, hS31, hk31, hZ31, hown31, hQ31, hC31, st31⟩ := own_Hprivate X30 hx hZ27 hown27 (w311 hw) (w312 hw) (w192 hw) rfl (w313 hw) (w33 hw) (w314 hw) (by decide) (r53_singletonScope l Z a0 hw [] o0 c27 i_5 b27 kb27 h30 n0 (Nat.le_trans Z0 sz_0_6) f32 Fw30 f33 sCS f35 f36 f37 f38 hp0) e30 f32 (W := 1) (by decide) (g := (mkF m 58 #[vr o0, vr o1] [(.ref o0), (.ref o0)])) rfl hml.symm (argsL := []) (rest := [(.ref o0)]) (lenOf pd_16 rfl) rfl rfl (own_wr rfl rfl) (hb hby d487) hS27 (Nat.le_trans hk27 K30.1) (own_EW hw) Ah6.1 sf0
 obtain ⟨rfl, N31q, K31⟩ := hQ31
 have N31 := Fr.app N30 N31q
 have Ah7 := Ah6.trans hC31
 have f39 := (kFld K31 (kFld K30 (kFld K27 (kFld K20 (kFld K13 (kFld K4 (kFld K3 F_o0_singleton nw0) nw0) nw0) nw0) nw0) (nwR (sn_284 hw) nw0)) nw0)
 have f40 := (kExa K31 f32)
 obtain ⟨T41, h41, X41, e41, W41, st41⟩ := putF X31 hx hZ31 hown31 (host := "") (Or.inl (w38 hw)) Via.refl rfl f39 f40 (Or.inl (w39 hw)) (w32 hw) (ty := .boolean) (by decide) (by decide) (by decide) (g := (mkF m 61 #[vr o0, vr o1] [z0, (.ref o0)])) rfl rfl (hb hby d492)
 have K41 := KL.ofW W41
 have Ck7 := own_chK K41 (naF (Safe.exa hZ31.alike f40 (by decide) (by decide)) na0) Ah7.1
 have Ah8 := Ah7.trans Ck7.1
 have Fw41 : Fd5 Z h41 o0 z0 := Fld.same W41 f39
 have N41 := Fr.snoc X41 N31 g_o0
 have C0 := (KL.refl h0 (WS_r54_setScope Z o0)).trans K3 na0
 have C1 := C0.trans K4 na0
 have C2 := C1.trans K13 na0
 have C3 := C2.trans K20 na0
 have C4 := C3.trans K27 na0
 have C5 := C4.trans K30 (naO (own_mi 0 rfl) na0)
 have C6 := C5.trans K31 na0
 have C7 := C6.trans K41 (naO (own_mi 1 rfl) na0)
 have sz_5_7 := (Nat.le_trans K30.1 K31.1)
 have sz_5_8 := (Nat.le_trans sz_5_7 K41.1)
 have f42 := (kFld K41 (kFld K31 Fw30 nw0) (nwR (sn_236 hw) nw0))
 have f43 := (kExa K41 (kExa K31 f33))
 have f44 := (kFld K41 (kFld K31 f35 nw0) (nwL (Ne.symm (hne27 _ sf34).1) nw0))
 have f45 := (kFld K41 (kFld K31 f36 nw0) (nwL (Ne.symm (hne27 _ sf34).1) nw0))
 have f46 := (kArv K41 (kArv K31 f37 na0) (naN (hne27 _ sf34).2 na0))
 refine ⟨T41, _, none, _, _, X41, hS31, (by rw [e41]; exact (Nat.le_trans hk31 K41.1)), (fun h => by cases h <;> rfl), ?_, (by rw [e41]; exact Ah8), hZ31, fun fs hr => ?_⟩
 · show Q_r54_setScope Z o0 o1 o_1 o_2 k_o_2 i_5 o_6 k_o_6 h0 n0 _ T41.heap _
   rw [e41]
   exact ⟨c27, b27, kb27, rfl, N41, C7, (Nat.lt_of_lt_of_le lta27 sz_5_8), (Nat.lt_of_lt_of_le ltb27 sz_5_8), f42, Fw41, f43, f44, f45, f46⟩
 refine t_aloadN 1 X0.here hx hby d471 rfl rfl rfl ?_
 refine st3 _ ?_
 refine st4 _ ?_
 refine t_aloadN 7 X4.here hx hby d474 rfl rfl rfl ?_
 refine st7 _ ?_
 refine t_ifNo 13 X7.here hx hby d476 (by decide) rfl ?_
 refine st13 _ ?_
 refine t_aloadN 16 X13.here hx hby d497 rfl rfl rfl ?_
 refine st14 _ ?_
 refine t_ifYes (pc := 19) 36 X14.here hx hby d499 (by decide) (by decide) (by decide) ?_
 refine t_aloadN 37 X14.here hx hby d477 rfl rfl rfl ?_
 refine st20 _ ?_
 refine t_aloadN 40 X20.here hx hby d479 rfl rfl rfl ?_
 refine st21 _ ?_
 refine t_ifYes (pc := 43) 51 X21.here hx hby d481 (by decide) (by decide) (by decide) ?_
 refine st27 _ ?_
 refine st30 _ ?_
 refine t_aloadN 57 X30.here hx hby d485 rfl rfl rfl ?_
 refine t_aloadN 58 X30.here hx hby d486 rfl rfl rfl ?_
 refine st31 _ ?_
 refine st41 _ ?_
 exact X41.returnOut hx hret (hb hby d493) hr
theorem law_21 (l : Launch) (Z : State) (a0 : Array Value) (hw : HW Z a0) (ws : List Jvm.Cond) (p0 p1 p2 p3 cs : Int32) (st_NO st_DC st_EL el_EL st_CD st_A : Addr) (tA : List Value) (m_AL m_UL m_UR m_LM m_UM : Addr) (k_el_EL k_st_A : ClassId) (h0 : Heap) (n0 : Nat) (Z0 : n0 ≤ h0.size) (hcs : ¬ (cs = (0 : Int32))) (hA : TabA tA) (hs : ((p0 &&& (2147483647 : Int32)) - ((p0 &&& (2147483647 : Int32)) / (3 : Int32)) * (3 : Int32)) = (2 : Int32)) (hpm : (p1 &&& (3 : Int32)) = (1 : Int32)) (sCS : SCS Z cs) (O0 : Old Z n0 h0) (S_DEFAULTCAPACITY_EMPTY_ELEMENTDATA : Sa0 Z (.ref st_DC)) (S_NO : Sa2 Z (.ref st_NO)) (M_java_util_ArrayList : OMir Z "java/util/ArrayList" m_AL) (M_java_util_Collections_UnmodifiableList : OMir Z "java/util/Collections$UnmodifiableList" m_UL) (M_java_util_Collections_UnmodifiableRandomAccessList : OMir Z "java/util/Collections$UnmodifiableRandomAccessList" m_UR) (M_java_util_LinkedHashMap : OMir Z "java/util/LinkedHashMap" m_LM) (M_java_util_Collections_UnmodifiableMap : OMir Z "java/util/Collections$UnmodifiableMap" m_UM) (S_EMPTY_LIST : Sa1 Z (.ref st_EL)) (E_st_EL : Ex6 Z h0 st_EL) (F_st_EL_elements : Fd28 Z h0 st_EL (.ref el_EL)) (V_el_EL : Arv Z h0 el_EL k_el_EL (.object "java/lang/Object") (0 : Int32) [] .null) (S_instance : Sa4 Z (.ref st_CD)) (E_st_CD : Ex8 Z h0 st_CD) (S_A : Sa3 Z (.ref st_A)) (V_st_A : Arv Z h0 st_A k_st_A .int 256 tA z0) :
    LawM l Z ws p0 p1 p2 p3 h0 n0 := by
 refine own_bodyH (k := 34) (n := 583) (y := x) (Q := fun v _ L => Q_law n0 v L) (own_EW hw) (plainFor_of_name pn_BeanDefinitionGetScopePinLaw149) (ef_law p0 p1 p2 p3) (by decide) (by decide) ?_
 intro p e s m below meth c s₁ hx hby hml hown hnm hret hZ e0 hS0 hk0 X0 hC0 hSF0
 have N0 := Fr.nil n0
 obtain ⟨T1, h1, k1, X1, e1, E1, A1, st1⟩ := newP (aty := .char) X0 hx hZ (w1 hw) e0 (g := (mkF m 14 #[vi p0, vi p1, vi p2, vi p3, vi 2, vi 1, .unset, .unset, .unset, .unset, .unset, .unset] [(.int 2)])) rfl (hb hby at_14) rfl (by decide) (cap := 2) (by decide) (by decide) (by decide) (by decide)
 obtain ⟨b1, g1⟩ : ∃ z, z = h0.size := ⟨_, rfl⟩
 rw [← g1] at A1 st1
 have ge_b1 : h0.size ≤ b1 := Nat.le_of_eq g1.symm
 have K1 := KL.ofE E1
 have Ck0 := own_chK K1 na0 (CHr.refl hC0).1
 have Ah1 := (CHr.refl hC0).trans Ck0.1
 have V1 : Arv Z h1 b1 k1 .char 2 [z0, z0] z0 := (Arv.new A1 (by decide)).pad (pad_rep [] z0 2)
 obtain ⟨T2, h2, X2, e2, W2, V2, st2⟩ := own_astC X1 hx hZ e1 V1 (j := 0) (by decide) 0 rfl (Nat.le_of_ble_eq_true rfl) (g := (mkF m 32 #[vi p0, vi p1, vi p2, vi p3, vi 2, vi 1, vr b1, .unset, .unset, .unset, .unset, .unset] [(.int (own_c0 p2)), z0, (.ref b1)])) rfl rfl (hb hby at_32)
 rw [show (nar .char (own_c0 p2)) = (own_c0 p2) from (own_c2c (own_c0a p2) (own_c0b p2))] at V2
 have gg3 := Nat.le_trans Z0 ge_b1
 have K2 := KL.ofW W2
 have Ck1 := own_chK K2 (naF (Ck0.2 _ (Safe.new ge_b1)) na0) Ah1.1
 have Ah2 := Ah1.trans Ck1.1
 replace V2 : Arv Z h2 b1 k1 .char 2 [(.int (own_c0 p2)), z0] z0 := V2
 have N2 := Fr.snoc X2 N0 gg3
 obtain ⟨T4, h4, X4, e4, W4, V4, st4⟩ := own_astC X2 hx hZ e2 V2 (j := 1) (by decide) 1 rfl (Nat.le_of_ble_eq_true rfl) (g := (mkF m 42 #[vi p0, vi p1, vi p2, vi p3, vi 2, vi 1, vr b1, .unset, .unset, .unset, .unset, .unset] [(.int (p3 &&& (255 : Int32))), (.int 1), (.ref b1)])) rfl rfl (hb hby at_42)
 rw [show (nar .char (p3 &&& (255 : Int32))) = (p3 &&& (255 : Int32)) from (i2c_mask _)] at V4
 have K4 := KL.ofW W4
 have sf5 := (Ck1.2 _ (Ck0.2 _ (Safe.new ge_b1)))
 have Ck2 := own_chK K4 (naF sf5 na0) Ah2.1
 have Ah3 := Ah2.trans Ck2.1
 replace V4 : Arv Z h4 b1 k1 .char 2 [(.int (own_c0 p2)), (.int (p3 &&& (255 : Int32)))] z0 := V4
 have N4 := Fr.snoc X4 N2 gg3
 obtain ⟨T6, h6, X6, e6, E6, A6, D6, -, st6⟩ := newO X4 hx hZ hown (w2 hw) (w3 hw) (w4 hw) e4 (g := (mkF m 43 #[vi p0, vi p1, vi p2, vi p3, vi 2, vi 1, vr b1, .unset, .unset, .unset, .unset, .unset] [])) rfl (hb hby at_43) (by decide) (by decide)
 obtain ⟨b6, g6⟩ : ∃ z, z = h4.size := ⟨_, rfl⟩
 rw [← g6] at A6 D6 st6
 have ge_b6 : h4.size ≤ b6 := Nat.le_of_eq g6.symm
 have K6 := KL.ofE E6
 have Ck3 := own_chK K6 na0 Ah3.1
 have Ah4 := Ah3.trans Ck3.1
 have F_b6_coder : Fd3 Z h6 b6 z0 := D6 (Or.inr (w28 hw)) (ty := .byte) (by decide)
 have F_b6_value : Fd4 Z h6 b6 .null := D6 (Or.inr (w30 hw)) (ty := (.array .byte)) (by decide)
 have f8 := (kArv K6 V4 na0)
 have f9 := (kOld K6 (kOld K4 (kOld K2 (kOld K1 O0 na0) (naG gg3 na0)) (naG gg3 na0)) na0)
 have sz_0_2 := (Nat.le_trans K1.1 K2.1)
 have sz_0_3 := (Nat.le_trans sz_0_2 K4.1)
 have gg10 := Nat.le_trans Z0 (Nat.le_trans sz_0_3 ge_b6)
 have sz_0_4 := (Nat.le_trans sz_0_3 K6.1)
 obtain ⟨_, T7, L7, X7, hQ7, st7⟩ := own_init X6 hx hZ rfl hown (w5 hw) (w6 hw) (w4 hw) (w7 hw) (by decide) (r7__init_ l Z a0 hw [] b6 b1 (own_c0 p2) (p3 &&& (255 : Int32)) k1 cs h6 n0 (Nat.le_trans Z0 sz_0_4) f8 sCS F_b6_coder A6 F_b6_value f9 hcs (own_c0b p2) (own_m255b _) gg10) e6 (W := 1) (by decide) (g := (mkF m 49 #[vi p0, vi p1, vi p2, vi p3, vi 2, vi 1, vr b1, .unset, .unset, .unset, .unset, .unset] [(.ref b1), (.ref b6), (.ref b6)])) rfl hml.symm (argsL := [(.ref b1)]) (rest := [(.ref b6)]) (lenOf pd_8 rfl) rfl rfl (own_wr rfl rfl) (hb hby at_49)
 obtain ⟨b1_6_4_7, k1_6_4_7, rfl, N7q, K7, Q7_0, Q7_1, Q7_2, Q7_3⟩ := hQ7
 have N7 := Fr.app N4 N7q
 have Ck4 := own_chK K7 (naF (Ck3.2 _ (Safe.new ge_b6)) (naF (Ck3.2 _ (Safe.new ge_b6)) na0)) Ah4.1
 have Ah5 := Ah4.trans Ck4.1
 obtain ⟨T12, h12, X12, e12, E12, A12, D12, -, st12⟩ := newO X7 hx hZ hown (w31 hw) (w32 hw) (w33 hw) rfl (g := (mkF m 54 #[vi p0, vi p1, vi p2, vi p3, vi 2, vi 1, vr b1, vr b6, .unset, .unset, .unset, .unset] [])) rfl (hb hby at_54) (by decide) (by decide)
 obtain ⟨b12, g12⟩ : ∃ z, z = T7.heap.size := ⟨_, rfl⟩
 rw [← g12] at A12 D12 st12
 have ge_b12 : T7.heap.size ≤ b12 := Nat.le_of_eq g12.symm
 have K12 := KL.ofE E12
 have Ck5 := own_chK K12 na0 Ah5.1
 have Ah6 := Ah5.trans Ck5.1
 have F_b12_singleton : Fd5 Z h12 b12 z0 := D12 (Or.inl (w39 hw)) (ty := .boolean) (by decide)
 have F_b12_initMethodRequired : Fd6 Z h12 b12 z0 := D12 (Or.inl (w41 hw)) (ty := .boolean) (by decide)
 have F_b12_destroyMethodRequired : Fd7 Z h12 b12 z0 := D12 (Or.inl (w43 hw)) (ty := .boolean) (by decide)
 have F_b12_dependsOn : Fd8 Z h12 b12 .null := D12 (Or.inr (w69 hw)) (ty := (.object "java/util/List")) (by decide)
 have F_b12_autowireCandidate : Fd9 Z h12 b12 z0 := D12 (Or.inl (w71 hw)) (ty := .boolean) (by decide)
 have F_b12_autowireMode : Fd10 Z h12 b12 .null := D12 (Or.inl (w76 hw)) (ty := (.object "com/example/graft_container/graftcontainer/BeanDefinition$Autowire")) (by decide)
 have F_b12_qualifiers : Fd11 Z h12 b12 .null := D12 (Or.inr (w104 hw)) (ty := (.object "java/util/Map")) (by decide)
 have F_b12_propertyValues : Fd12 Z h12 b12 .null := D12 (Or.inr (w106 hw)) (ty := (.object "java/util/List")) (by decide)
 have F_b12_constructorArguments : Fd13 Z h12 b12 .null := D12 (Or.inr (w108 hw)) (ty := (.object "java/util/List")) (by decide)
 have F_b12_dependsOnView : Fd14 Z h12 b12 .null := D12 (Or.inr (w153 hw)) (ty := (.object "java/util/List")) (by decide)
 have F_b12_qualifiersView : Fd15 Z h12 b12 .null := D12 (Or.inr (w174 hw)) (ty := (.object "java/util/Map")) (by decide)
 have F_b12_propertyValuesView : Fd16 Z h12 b12 .null := D12 (Or.inr (w176 hw)) (ty := (.object "java/util/List")) (by decide)
 have F_b12_constructorArgumentsView : Fd17 Z h12 b12 .null := D12 (Or.inr (w178 hw)) (ty := (.object "java/util/List")) (by decide)
 have F_b12_changeListeners : Fd18 Z h12 b12 .null := D12 (Or.inl (w186 hw)) (ty := (.object "java/util/List")) (by decide)
 have F_b12_outers : Fd19 Z h12 b12 .null := D12 (Or.inl (w188 hw)) (ty := (.object "java/util/List")) (by decide)
 have F_b12_frozen : Fd20 Z h12 b12 z0 := D12 (Or.inl (w203 hw)) (ty := .boolean) (by decide)
 have F_b12_parentName : Fd21 Z h12 b12 .null := D12 (Or.inl (w310 hw)) (ty := (.object "java/lang/String")) (by decide)
 have F_b12_scope : Fd22 Z h12 b12 .null := D12 (Or.inl (w322 hw)) (ty := (.object "java/lang/String")) (by decide)
 have sz_0_5 := (Nat.le_trans sz_0_4 K7.1)
 have gg14 := Nat.le_trans Z0 (Nat.le_trans sz_0_5 ge_b12)
 have f15 := (kOld K12 (kOld K7 f9 (naG gg10 (naG gg10 na0))) na0)
 have sz_0_6 := (Nat.le_trans sz_0_5 K12.1)
 obtain ⟨_, T13, L13, X13, hQ13, st13⟩ := own_init X12 hx hZ rfl hown (w34 hw) (w35 hw) (w33 hw) (w36 hw) (by decide) (r12__init_ l Z a0 hw [] b12 st_DC st_NO m_AL m_UL m_UR m_LM m_UM st_EL h12 n0 (Nat.le_trans Z0 sz_0_6) F_b12_singleton A12 gg14 F_b12_initMethodRequired F_b12_destroyMethodRequired S_DEFAULTCAPACITY_EMPTY_ELEMENTDATA f15 F_b12_dependsOn F_b12_autowireCandidate S_NO F_b12_autowireMode F_b12_qualifiers F_b12_propertyValues F_b12_constructorArguments M_java_util_ArrayList M_java_util_Collections_UnmodifiableList M_java_util_Collections_UnmodifiableRandomAccessList F_b12_dependsOnView M_java_util_LinkedHashMap M_java_util_Collections_UnmodifiableMap F_b12_qualifiersView F_b12_propertyValuesView F_b12_constructorArgumentsView S_EMPTY_LIST F_b12_changeListeners F_b12_outers) e12 (W := 1) (by decide) (g := (mkF m 58 #[vi p0, vi p1, vi p2, vi p3, vi 2, vi 1, vr b1, vr b6, .unset, .unset, .unset, .unset] [(.ref b12), (.ref b12)])) rfl hml.symm (argsL := []) (rest := [(.ref b12)]) (lenOf pd_9 rfl) rfl rfl (own_wr rfl rfl) (hb hby at_58)
 obtain ⟨b9_13, b27_13, b34_13, b42_13, r_55_13, r_64_13, r_71_13, r_78_13, rfl, N13q, K13, Q13_0, Q13_1, Q13_2, Q13_3, Q13_4, Q13_5, Q13_6, Q13_7, Q13_8, Q13_9, Q13_10, Q13_11, Q13_12, Q13_13, Q13_14, Q13_15, Q13_16, Q13_17, Q13_18, Q13_19, Q13_20, Q13_21, Q13_22⟩ := hQ13
 have N13 := Fr.app N7 N13q
 have Ck6 := own_chK K13 (naFM 15 rfl (Safe.exa hZ.alike A12 (by decide) (by decide)) na0) Ah6.1
 have Ah7 := Ah6.trans Ck6.1
 have f17 := (kExa K13 A12)
 have f18 := (kFld K13 F_b12_frozen (nwf_2 hw b12))
 have f19 := (kExa K13 (kExa K12 (kExa K7 (kExa K6 (kExa K4 (kExa K2 (kExa K1 E_st_EL)))))))
 have lt_st_EL : st_EL < h0.size := Exa.lt E_st_EL
 have ne20 := lt_ne lt_st_EL ge_b1
 have ne21 := lt_ne (Nat.lt_of_lt_of_le lt_st_EL sz_0_3) ge_b6
 have ne22 := lt_ne (Nat.lt_of_lt_of_le lt_st_EL sz_0_5) ge_b12
 have f23 := (kFld K13 (kFld K12 (kFld K7 (kFld K6 (kFld K4 (kFld K2 (kFld K1 F_st_EL_elements nw0) (nwL ne20 nw0)) (nwL ne20 nw0)) nw0) (nwL ne21 (nwL ne21 nw0))) nw0) (nwM 15 rfl ne22 nw0))
 have lt_el_EL : el_EL < h0.size := Arv.lt V_el_EL
 have ne24 := lt_ne lt_el_EL ge_b1
 have ne25 := lt_ne (Nat.lt_of_lt_of_le lt_el_EL sz_0_3) ge_b6
 have ne26 := lt_ne (Nat.lt_of_lt_of_le lt_el_EL sz_0_5) ge_b12
 have f27 := (kArv K13 (kArv K12 (kArv K7 (kArv K6 (kArv K4 (kArv K2 (kArv K1 V_el_EL na0) (naN (Ne.symm ne24) na0)) (naN (Ne.symm ne24) na0)) na0) (naN (Ne.symm ne25) (naN (Ne.symm ne25) na0))) na0) (naNM 15 rfl (Ne.symm ne26) na0))
 have f28 := (kExa K13 (kExa K12 (kExa K7 A6)))
 have lt_b6 : b6 < h6.size := Exa.lt A6
 have ne29 := lt_ne (Nat.lt_of_lt_of_le lt_b6 K7.1) ge_b12
 have f30 := (kFld K13 (kFld K12 Q7_1 nw0) (nwM 15 rfl ne29 nw0))
 have f31 := (kFld K13 (kFld K12 Q7_2 nw0) (nwM 15 rfl ne29 nw0))
 have lt_b1_6_4_7 : b1_6_4_7 < T7.heap.size := Arv.lt Q7_3
 have ne32 := lt_ne lt_b1_6_4_7 ge_b12
 have f33 := (kArv K13 (kArv K12 Q7_3 na0) (naNM 15 rfl (Ne.symm ne32) na0))
 have f34 := (kExa K13 (kExa K12 (kExa K7 (kExa K6 (kExa K4 (kExa K2 (kExa K1 E_st_CD)))))))
 have lt_st_A : st_A < h0.size := Arv.lt V_st_A
 have ne35 := lt_ne lt_st_A ge_b1
 have ne36 := lt_ne (Nat.lt_of_lt_of_le lt_st_A sz_0_3) ge_b6
 have ne37 := lt_ne (Nat.lt_of_lt_of_le lt_st_A sz_0_5) ge_b12
 have f38 := (kArv K13 (kArv K12 (kArv K7 (kArv K6 (kArv K4 (kArv K2 (kArv K1 V_st_A na0) (naN (Ne.symm ne35) na0)) (naN (Ne.symm ne35) na0)) na0) (naN (Ne.symm ne36) (naN (Ne.symm ne36) na0))) na0) (naNM 15 rfl (Ne.symm ne37) na0))
 have f39 := (kOld K13 f15 (naGM 15 rfl gg14 na0))
 have f40 := (kFld K13 F_b12_parentName (nwf_1 hw b12))
 have f41 := (kFld K13 F_b12_scope (nwf_0 hw b12))
 have sz_0_7 := (Nat.le_trans sz_0_6 K13.1)
 obtain ⟨_, T16, L16, X16, hS16, hk16, hZ16, hown16, hQ16, hC16, st16⟩ := own_Hvirtual X13 hx hZ hown (w189 hw) (w190 hw) (nfS hZ (w192 hw)) (w192 hw) (w191 hw) (w33 hw) (w193 hw) (by decide) (r21_setParentName l Z a0 hw [] b12 b6 st_EL el_EL k_el_EL cs b1_6_4_7 ((own_c0 p2).toInt8.toInt32) ((p3 &&& (255 : Int32)).toInt8.toInt32) k1_6_4_7 st_CD st_A tA k_st_A T13.heap n0 (Nat.le_trans Z0 sz_0_7) f17 f18 Q13_22 f19 f23 f27 Q13_21 f28 sCS f30 f31 f33 S_instance f34 S_A f38 f39 hcs (own_nsp p2 (by decide)) (own_nsp p2 (by decide)) (own_nws p2 hA) f40 gg14 f41 Q13_8) rfl f17 (W := 0) (by decide) (g := (mkF m 79 #[vi p0, vi p1, vi p2, vi p3, vi 2, vi 1, vr b1, vr b6, vr b12, .unset, .unset, .unset] [(.ref b6), (.ref b12)])) rfl hml.symm (argsL := [(.ref b6)]) (rest := []) (lenOf pd_25 rfl) rfl rfl (own_wr rfl rfl) (hb hby at_79) hS0 (Nat.le_trans hk0 sz_0_7) (own_EW hw) Ah7.1 sf0
 obtain ⟨rfl, N16q, K16, Q16_0, Q16_1⟩ := hQ16
 have N16 := Fr.app N13 N16q
 have Ah8 := Ah7.trans hC16
 obtain ⟨c42, T42, h42, k42, b42, kb42, X42, e42, E42, hS42, hk42, hZ42, hown42, Ex42, Fc42, Fv42, Ar42, lta42, ltb42, hC42, Lt42, hne42, st42⟩ := ldcCH X16 hx hZ16 hown16 (w336 hw) (own_wS hw) rfl hS16 hk16 (own_EW hw) (by decide) Ah8.1 (vs := [(.int 112), (.int 114), (.int 111), (.int 116), (.int 111), (.int 116), (.int 121), (.int 112), (.int 101)]) (z := 9) ⟨by decide, rfl⟩ (by decide) rfl (g := (mkF m 118 #[vi p0, vi p1, vi p2, vi p3, vi 2, vi 1, vr b1, vr b6, vr b12, .unset, .unset, .unset] [(.ref b12)])) rfl (hb hby at_118) (n := 36) (by decide) (by decide) (by decide) (by decide)
 have K42 := KL.ofE E42
 have Ah9 := Ah8.trans hC42
 have f44 := (kExa K42 (kExa K16 f17))
 have f45 := (kFld K42 (kFld K16 f18 (nwR (sn_281 hw) (nwR (sn_280 hw) nw0))) nw0)
 have f46 := (kFld K42 (kFld K16 Q13_22 (nwR (sn_282 hw) (nwR (sn_117 hw) nw0))) nw0)
 have f47 := (kExa K42 (kExa K16 f19))
 have f48 := (kFld K42 (kFld K16 f23 (nwL ne22 (nwL ne22 nw0))) nw0)
 have f49 := (kArv K42 (kArv K16 f27 (naN (Ne.symm ne26) (naN (Ne.symm ne26) na0))) na0)
 have f50 := (kFld K42 (kFld K16 Q13_21 (nwR (sn_283 hw) (nwR (sn_104 hw) nw0))) nw0)
 have f51 := (kOld K42 (kOld K16 f39 (naG gg14 (naG gg14 na0))) na0)
 have f52 := (kFld K42 (kFld K16 f41 (nwR (sn_264 hw) (nwR (sn_236 hw) nw0))) nw0)
 have f53 := (kFld K42 Q16_1 nw0)
 have sz_0_8 := (Nat.le_trans sz_0_7 K16.1)
 have sz_0_9 := (Nat.le_trans sz_0_8 K42.1)
 obtain ⟨_, T43, L43, X43, hS43, hk43, hZ43, hown43, hQ43, hC43, st43⟩ := own_Hvirtual X42 hx hZ42 hown42 (w330 hw) (w331 hw) (nfS hZ42 (w333 hw)) (w333 hw) (w332 hw) (w33 hw) (w334 hw) (by decide) (r54_setScope l Z a0 hw [] b12 c42 st_EL el_EL k_el_EL cs b42 kb42 h42 n0 (Nat.le_trans Z0 sz_0_9) f44 f45 f46 f47 f48 f49 f50 Ex42 sCS Fc42 Fv42 Ar42 f51 hcs f52 gg14 f53) e42 f44 (W := 0) (by decide) (g := (mkF m 120 #[vi p0, vi p1, vi p2, vi p3, vi 2, vi 1, vr b1, vr b6, vr b12, .unset, .unset, .unset] [(.ref c42), (.ref b12)])) rfl hml.symm (argsL := [(.ref c42)]) (rest := []) (lenOf pd_25 rfl) rfl rfl (own_wr rfl rfl) (hb hby at_120) hS42 hk42 (own_EW hw) Ah9.1 sf0
 obtain ⟨c27_43, b27_43, kb27_43, rfl, N43q, K43, Q43_0, Q43_1, Q43_2, Q43_3, Q43_4, Q43_5, Q43_6, Q43_7⟩ := hQ43
 have N43 := Fr.app N16 N43q
 have Ah10 := Ah9.trans hC43
 have sz_0_10 := (Nat.le_trans sz_0_9 K43.1)
 have f55 := (kExa K43 f44)
 obtain ⟨_, T54, L54, X54, hQ54, st54⟩ := own_virtual X43 hx hZ43 hown43 (w328 hw) (w317 hw) (nfS hZ43 (w319 hw)) (w319 hw) (w318 hw) (w33 hw) (w320 hw) (by decide) (r47_getScope l Z a0 hw [] b12 c27_43 T43.heap n0 (Nat.le_trans Z0 sz_0_10) Q43_2) rfl f55 (W := 0) (by decide) (g := (mkF m 157 #[vi p0, vi p1, vi p2, vi p3, vi 2, vi 1, vr b1, vr b6, vr b12, vi 1, .unset, .unset] [(.ref b12)])) rfl hml.symm (argsL := []) (rest := []) (lenOf pd_13 rfl) rfl rfl (own_wr rfl rfl) (hb hby at_157)
 obtain ⟨rfl, N54q, e54⟩ := hQ54
 have N54 := Fr.app N43 N54q
 obtain ⟨c56, T56, h56, k56, b56, kb56, X56, e56, E56, hS56, hk56, hZ56, hown56, Ex56, Fc56, Fv56, Ar56, lta56, ltb56, hC56, Lt56, hne56, st56⟩ := ldcCH X54 hx hZ43 hown43 (w336 hw) (own_wS hw) e54 hS43 hk43 (own_EW hw) (by decide) Ah10.1 (vs := [(.int 112), (.int 114), (.int 111), (.int 116), (.int 111), (.int 116), (.int 121), (.int 112), (.int 101)]) (z := 9) ⟨by decide, rfl⟩ (by decide) rfl (g := (mkF m 181 #[vi p0, vi p1, vi p2, vi p3, vi 2, vi 1, vr b1, vr b6, vr b12, vi 1, vr c27_43, .unset] [])) rfl (hb hby at_181) (n := 36) (by decide) (by decide) (by decide) (by decide)
 have K56 := KL.ofE E56
 have Ah11 := Ah10.trans hC56
 have f58 := (kExa K56 Q43_4)
 have f59 := (kOld K56 (kOld K43 f51 (naG gg14 (naG gg14 na0))) na0)
 have f60 := (kFld K56 Q43_5 nw0)
 have f61 := (kFld K56 Q43_6 nw0)
 have f62 := (kArv K56 Q43_7 na0)
 have sz_0_11 := (Nat.le_trans sz_0_10 K56.1)
 obtain ⟨_, T57, L57, X57, hQ57, st57⟩ := own_virtual X56 hx hZ56 hown56 (w335 hw) (w324 hw) (nfS hZ56 (w326 hw)) (w326 hw) (w325 hw) (w4 hw) (w327 hw) (by decide) (r_eqp l Z a0 hw [] c56 c27_43 b56 b27_43 cs kb56 kb27_43 h56 n0 (Nat.le_trans Z0 sz_0_11) hcs f58 sCS f59 Fc56 f60 Fv56 f61 Ar56 f62) e56 Ex56 (W := 0) (by decide) (g := (mkF m 228 #[vi p0, vi p1, vi p2, vi p3, vi 2, vi 1, vr b1, vr b6, vr b12, vi 1, vr c27_43, vr c56] [(.ref c27_43), (.ref c56)])) rfl hml.symm (argsL := [(.ref c27_43)]) (rest := []) (lenOf pd_14 rfl) rfl rfl (own_wr rfl rfl) (hb hby at_228)
 obtain ⟨rfl, N57q, e57⟩ := hQ57
 have N57 := Fr.app N54 N57q
 refine ⟨T57, _, some (.int 1), _, _, X57, hS56, (by rw [e57]; exact hk56), (fun h => by cases h <;> rfl), ?_, (by rw [e57]; exact Ah11), hZ56, fun fs hr => ?_⟩
 · show Q_law n0 _ _
   exact ⟨rfl, N57⟩
 refine t_iloadN 1 X0.here hx hby at_0 rfl rfl ?_
 refine X0.ldcInt hx hown (mvT hZ (w0 hw)) (g := (mkF m 1 #[vi p0, vi p1, vi p2, vi p3, .unset, .unset, .unset, .unset, .unset, .unset, .unset, .unset] [(.int p0)])) rfl (hb hby at_1) _ ?_
 refine t_iand 4 X0.here hx hby at_3 rfl rfl ?_
 refine t_iconst 5 (r := 3) X0.here hx hby at_4 (by decide) rfl ?_
 refine t_irem 6 (r := 2) X0.here hx hby at_5 (by decide) hs rfl ?_
 refine t_istore (pc' := 8) (L' := #[vi p0, vi p1, vi p2, vi p3, vi 2, .unset, .unset, .unset, .unset, .unset, .unset, .unset]) X0.here hx hby at_6 rfl rfl ?_
 refine t_iloadN 9 X0.here hx hby at_8 rfl rfl ?_
 refine t_iconst 10 (r := 3) X0.here hx hby at_9 (by decide) rfl ?_
 refine t_iand 11 (r := 1) X0.here hx hby at_10 hpm rfl ?_
 refine t_istore (pc' := 13) (L' := #[vi p0, vi p1, vi p2, vi p3, vi 2, vi 1, .unset, .unset, .unset, .unset, .unset, .unset]) X0.here hx hby at_11 rfl rfl ?_
 refine t_iconst 14 (r := 2) X0.here hx hby at_13 (by decide) rfl ?_
 refine st1 _ ?_
 refine t_astore (pc' := 18) (L' := #[vi p0, vi p1, vi p2, vi p3, vi 2, vi 1, vr b1, .unset, .unset, .unset, .unset, .unset]) X1.here hx hby at_16 rfl rfl rfl ?_
 refine t_aload 20 X1.here hx hby at_18 rfl rfl rfl ?_
 refine t_iconst 21 (r := 0) X1.here hx hby at_20 (by decide) rfl ?_
 refine t_bipush 23 (r := 33) X1.here hx hby at_21 (by decide) rfl ?_
 refine t_iloadN 24 X1.here hx hby at_23 rfl rfl ?_
 refine X1.ldcInt hx hown (mvT hZ (w0 hw)) (g := (mkF m 24 #[vi p0, vi p1, vi p2, vi p3, vi 2, vi 1, vr b1, .unset, .unset, .unset, .unset, .unset] [(.int p2), (.int 33), z0, (.ref b1)])) rfl (hb hby at_24) _ ?_
 refine t_iand 27 X1.here hx hby at_26 rfl rfl ?_
 refine t_bipush 29 (r := 94) X1.here hx hby at_27 (by decide) rfl ?_
 refine t_irem 30 X1.here hx hby at_29 (by decide) rfl rfl ?_
 refine t_iadd 31 (r := (own_c0 p2)) X1.here hx hby at_30 (Eq.refl (own_c0 p2)) rfl ?_
 refine t_i2c 32 (r := (own_c0 p2)) X1.here hx hby at_31 (own_c2c (own_c0a p2) (own_c0b p2)) rfl ?_
 refine st2 _ ?_
 refine t_aload 35 X2.here hx hby at_33 rfl rfl rfl ?_
 refine t_iconst 36 (r := 1) X2.here hx hby at_35 (by decide) rfl ?_
 refine t_iloadN 37 X2.here hx hby at_36 rfl rfl ?_
 refine t_sipush 40 (r := 255) X2.here hx hby at_37 (by decide) rfl ?_
 refine t_iand 41 X2.here hx hby at_40 rfl rfl ?_
 refine t_i2c 42 (r := (p3 &&& (255 : Int32))) X2.here hx hby at_41 (i2c_mask _) rfl ?_
 refine st4 _ ?_
 refine st6 _ ?_
 refine t_dup 47 X6.here hx hby at_46 rfl rfl ?_
 refine t_aload 49 X6.here hx hby at_47 rfl rfl rfl ?_
 refine st7 _ ?_
 refine t_astore (pc' := 54) (L' := #[vi p0, vi p1, vi p2, vi p3, vi 2, vi 1, vr b1, vr b6, .unset, .unset, .unset, .unset]) X7.here hx hby at_52 rfl rfl rfl ?_
 refine st12 _ ?_
 refine t_dup 58 X12.here hx hby at_57 rfl rfl ?_
 refine st13 _ ?_
 refine t_astore (pc' := 63) (L' := #[vi p0, vi p1, vi p2, vi p3, vi 2, vi 1, vr b1, vr b6, vr b12, .unset, .unset, .unset]) X13.here hx hby at_61 rfl rfl rfl ?_
 refine t_iload 65 X13.here hx hby at_63 rfl rfl ?_
 refine t_iconst 66 (r := 1) X13.here hx hby at_65 (by decide) rfl ?_
 refine t_icmpYes (pc := 66) 75 X13.here hx hby at_66 (by decide) (by decide) (by decide) ?_
 refine t_aload 77 X13.here hx hby at_75 rfl rfl rfl ?_
 refine t_aload 79 X13.here hx hby at_77 rfl rfl rfl ?_
 refine st16 _ ?_
 refine t_iload 84 X16.here hx hby at_82 rfl rfl ?_
 refine t_iconst 85 (r := 2) X16.here hx hby at_84 (by decide) rfl ?_
 refine t_icmpYes (pc := 85) 94 X16.here hx hby at_85 (by decide) (by decide) (by decide) ?_
 refine t_iload 96 X16.here hx hby at_94 rfl rfl ?_
 refine t_iconst 97 (r := 1) X16.here hx hby at_96 (by decide) rfl ?_
 refine t_icmpYes (pc := 97) 110 X16.here hx hby at_97 (by decide) (by decide) (by decide) ?_
 refine t_iload 112 X16.here hx hby at_110 rfl rfl ?_
 refine t_iconst 113 (r := 2) X16.here hx hby at_112 (by decide) rfl ?_
 refine t_icmpNo 116 X16.here hx hby at_113 (by decide) rfl ?_
 refine t_aload 118 X16.here hx hby at_116 rfl rfl rfl ?_
 refine st42 _ ?_
 refine st43 _ ?_
 refine t_iload 125 X43.here hx hby at_123 rfl rfl ?_
 refine t_iconst 126 (r := 3) X43.here hx hby at_125 (by decide) rfl ?_
 refine t_icmpYes (pc := 126) 136 X43.here hx hby at_126 (by decide) (by decide) (by decide) ?_
 refine t_iload 138 X43.here hx hby at_136 rfl rfl ?_
 refine t_iconst 139 (r := 1) X43.here hx hby at_138 (by decide) rfl ?_
 refine t_icmpYes (pc := 139) 148 X43.here hx hby at_139 (by decide) (by decide) (by decide) ?_
 refine t_iconst 149 (r := 1) X43.here hx hby at_148 (by decide) rfl ?_
 refine t_goto (pc := 149) 153 X43.here hx hby at_149 (by decide) (by decide) ?_
 refine t_istore (pc' := 155) (L' := #[vi p0, vi p1, vi p2, vi p3, vi 2, vi 1, vr b1, vr b6, vr b12, vi 1, .unset, .unset]) X43.here hx hby at_153 rfl rfl ?_
 refine t_aload 157 X43.here hx hby at_155 rfl rfl rfl ?_
 refine st54 _ ?_
 refine t_astore (pc' := 162) (L' := #[vi p0, vi p1, vi p2, vi p3, vi 2, vi 1, vr b1, vr b6, vr b12, vi 1, vr c27_43, .unset]) X54.here hx hby at_160 rfl rfl rfl ?_
 refine t_iload 164 X54.here hx hby at_162 rfl rfl ?_
 refine t_iconst 165 (r := 1) X54.here hx hby at_164 (by decide) rfl ?_
 refine t_icmpYes (pc := 165) 175 X54.here hx hby at_165 (by decide) (by decide) (by decide) ?_
 refine t_iload 177 X54.here hx hby at_175 rfl rfl ?_
 refine t_iconst 178 (r := 2) X54.here hx hby at_177 (by decide) rfl ?_
 refine t_icmpNo 181 X54.here hx hby at_178 (by decide) rfl ?_
 refine st56 _ ?_
 refine t_astore (pc' := 185) (L' := #[vi p0, vi p1, vi p2, vi p3, vi 2, vi 1, vr b1, vr b6, vr b12, vi 1, vr c27_43, vr c56]) X56.here hx hby at_183 rfl rfl rfl ?_
 refine t_goto (pc := 185) 203 X56.here hx hby at_185 (by decide) (by decide) ?_
 refine t_aload 205 X56.here hx hby at_203 rfl rfl rfl ?_
 refine t_ifnonnullYes (pc := 205) 219 X56.here hx hby at_205 (by decide) (by decide) ?_
 refine t_aload 221 X56.here hx hby at_219 rfl rfl rfl ?_
 refine t_ifnullNo 224 X56.here hx hby at_221 rfl ?_
 refine t_aload 226 X56.here hx hby at_224 rfl rfl rfl ?_
 refine t_aload 228 X56.here hx hby at_226 rfl rfl rfl ?_
 refine st57 _ ?_
 refine t_ifNo 234 X57.here hx hby at_231 (by decide) rfl ?_
 refine t_iconst 235 (r := 1) X57.here hx hby at_234 (by decide) rfl ?_
 refine t_goto (pc := 235) 239 X57.here hx hby at_235 (by decide) (by decide) ?_
 exact retN X57 hx (t := .boolean) hret (by simp) (hb hby at_239) hr
theorem law_22 (l : Launch) (Z : State) (a0 : Array Value) (hw : HW Z a0) (ws : List Jvm.Cond) (p0 p1 p2 p3 cs : Int32) (st_NO st_DC st_EL el_EL st_CD st_A : Addr) (tA : List Value) (m_AL m_UL m_UR m_LM m_UM : Addr) (k_el_EL k_st_A : ClassId) (h0 : Heap) (n0 : Nat) (Z0 : n0 ≤ h0.size) (hcs : ¬ (cs = (0 : Int32))) (hA : TabA tA) (hs : ((p0 &&& (2147483647 : Int32)) - ((p0 &&& (2147483647 : Int32)) / (3 : Int32)) * (3 : Int32)) = (2 : Int32)) (hpm : (p1 &&& (3 : Int32)) = (2 : Int32)) (sCS : SCS Z cs) (O0 : Old Z n0 h0) (S_DEFAULTCAPACITY_EMPTY_ELEMENTDATA : Sa0 Z (.ref st_DC)) (S_NO : Sa2 Z (.ref st_NO)) (M_java_util_ArrayList : OMir Z "java/util/ArrayList" m_AL) (M_java_util_Collections_UnmodifiableList : OMir Z "java/util/Collections$UnmodifiableList" m_UL) (M_java_util_Collections_UnmodifiableRandomAccessList : OMir Z "java/util/Collections$UnmodifiableRandomAccessList" m_UR) (M_java_util_LinkedHashMap : OMir Z "java/util/LinkedHashMap" m_LM) (M_java_util_Collections_UnmodifiableMap : OMir Z "java/util/Collections$UnmodifiableMap" m_UM) (S_EMPTY_LIST : Sa1 Z (.ref st_EL)) (E_st_EL : Ex6 Z h0 st_EL) (F_st_EL_elements : Fd28 Z h0 st_EL (.ref el_EL)) (V_el_EL : Arv Z h0 el_EL k_el_EL (.object "java/lang/Object") (0 : Int32) [] .null) (S_instance : Sa4 Z (.ref st_CD)) (E_st_CD : Ex8 Z h0 st_CD) (S_A : Sa3 Z (.ref st_A)) (V_st_A : Arv Z h0 st_A k_st_A .int 256 tA z0) :
    LawM l Z ws p0 p1 p2 p3 h0 n0 := by
 refine own_bodyH (k := 42) (n := 851) (y := x) (Q := fun v _ L => Q_law n0 v L) (own_EW hw) (plainFor_of_name pn_BeanDefinitionGetScopePinLaw149) (ef_law p0 p1 p2 p3) (by decide) (by decide) ?_
 intro p e s m below meth c s₁ hx hby hml hown hnm hret hZ e0 hS0 hk0 X0 hC0 hSF0
 have N0 := Fr.nil n0
 obtain ⟨T1, h1, k1, X1, e1, E1, A1, st1⟩ := newP (aty := .char) X0 hx hZ (w1 hw) e0 (g := (mkF m 14 #[vi p0, vi p1, vi p2, vi p3, vi 2, vi 2, .unset, .unset, .unset, .unset, .unset, .unset] [(.int 2)])) rfl (hb hby at_14) rfl (by decide) (cap := 2) (by decide) (by decide) (by decide) (by decide)
 obtain ⟨b1, g1⟩ : ∃ z, z = h0.size := ⟨_, rfl⟩
 rw [← g1] at A1 st1
 have ge_b1 : h0.size ≤ b1 := Nat.le_of_eq g1.symm
 have K1 := KL.ofE E1
 have Ck0 := own_chK K1 na0 (CHr.refl hC0).1
 have Ah1 := (CHr.refl hC0).trans Ck0.1
 have V1 : Arv Z h1 b1 k1 .char 2 [z0, z0] z0 := (Arv.new A1 (by decide)).pad (pad_rep [] z0 2)
 obtain ⟨T2, h2, X2, e2, W2, V2, st2⟩ := own_astC X1 hx hZ e1 V1 (j := 0) (by decide) 0 rfl (Nat.le_of_ble_eq_true rfl) (g := (mkF m 32 #[vi p0, vi p1, vi p2, vi p3, vi 2, vi 2, vr b1, .unset, .unset, .unset, .unset, .unset] [(.int (own_c0 p2)), z0, (.ref b1)])) rfl rfl (hb hby at_32)
 rw [show (nar .char (own_c0 p2)) = (own_c0 p2) from (own_c2c (own_c0a p2) (own_c0b p2))] at V2
 have gg3 := Nat.le_trans Z0 ge_b1
 have K2 := KL.ofW W2
 have Ck1 := own_chK K2 (naF (Ck0.2 _ (Safe.new ge_b1)) na0) Ah1.1
 have Ah2 := Ah1.trans Ck1.1
 replace V2 : Arv Z h2 b1 k1 .char 2 [(.int (own_c0 p2)), z0] z0 := V2
 have N2 := Fr.snoc X2 N0 gg3
 obtain ⟨T4, h4, X4, e4, W4, V4, st4⟩ := own_astC X2 hx hZ e2 V2 (j := 1) (by decide) 1 rfl (Nat.le_of_ble_eq_true rfl) (g := (mkF m 42 #[vi p0, vi p1, vi p2, vi p3, vi 2, vi 2, vr b1, .unset, .unset, .unset, .unset, .unset] [(.int (p3 &&& (255 : Int32))), (.int 1), (.ref b1)])) rfl rfl (hb hby at_42)
 rw [show (nar .char (p3 &&& (255 : Int32))) = (p3 &&& (255 : Int32)) from (i2c_mask _)] at V4
 have K4 := KL.ofW W4
 have sf5 := (Ck1.2 _ (Ck0.2 _ (Safe.new ge_b1)))
 have Ck2 := own_chK K4 (naF sf5 na0) Ah2.1
 have Ah3 := Ah2.trans Ck2.1
 replace V4 : Arv Z h4 b1 k1 .char 2 [(.int (own_c0 p2)), (.int (p3 &&& (255 : Int32)))] z0 := V4
 have N4 := Fr.snoc X4 N2 gg3
 obtain ⟨T6, h6, X6, e6, E6, A6, D6, -, st6⟩ := newO X4 hx hZ hown (w2 hw) (w3 hw) (w4 hw) e4 (g := (mkF m 43 #[vi p0, vi p1, vi p2, vi p3, vi 2, vi 2, vr b1, .unset, .unset, .unset, .unset, .unset] [])) rfl (hb hby at_43) (by decide) (by decide)
 obtain ⟨b6, g6⟩ : ∃ z, z = h4.size := ⟨_, rfl⟩
 rw [← g6] at A6 D6 st6
 have ge_b6 : h4.size ≤ b6 := Nat.le_of_eq g6.symm
 have K6 := KL.ofE E6
 have Ck3 := own_chK K6 na0 Ah3.1
 have Ah4 := Ah3.trans Ck3.1
 have F_b6_coder : Fd3 Z h6 b6 z0 := D6 (Or.inr (w28 hw)) (ty := .byte) (by decide)
 have F_b6_value : Fd4 Z h6 b6 .null := D6 (Or.inr (w30 hw)) (ty := (.array .byte)) (by decide)
 have f8 := (kArv K6 V4 na0)
 have f9 := (kOld K6 (kOld K4 (kOld K2 (kOld K1 O0 na0) (naG gg3 na0)) (naG gg3 na0)) na0)
 have sz_0_2 := (Nat.le_trans K1.1 K2.1)
 have sz_0_3 := (Nat.le_trans sz_0_2 K4.1)
 have gg10 := Nat.le_trans Z0 (Nat.le_trans sz_0_3 ge_b6)
 have sz_0_4 := (Nat.le_trans sz_0_3 K6.1)
 obtain ⟨_, T7, L7, X7, hQ7, st7⟩ := own_init X6 hx hZ rfl hown (w5 hw) (w6 hw) (w4 hw) (w7 hw) (by decide) (r7__init_ l Z a0 hw [] b6 b1 (own_c0 p2) (p3 &&& (255 : Int32)) k1 cs h6 n0 (Nat.le_trans Z0 sz_0_4) f8 sCS F_b6_coder A6 F_b6_value f9 hcs (own_c0b p2) (own_m255b _) gg10) e6 (W := 1) (by decide) (g := (mkF m 49 #[vi p0, vi p1, vi p2, vi p3, vi 2, vi 2, vr b1, .unset, .unset, .unset, .unset, .unset] [(.ref b1), (.ref b6), (.ref b6)])) rfl hml.symm (argsL := [(.ref b1)]) (rest := [(.ref b6)]) (lenOf pd_8 rfl) rfl rfl (own_wr rfl rfl) (hb hby at_49)
 obtain ⟨b1_6_4_7, k1_6_4_7, rfl, N7q, K7, Q7_0, Q7_1, Q7_2, Q7_3⟩ := hQ7
 have N7 := Fr.app N4 N7q
 have Ck4 := own_chK K7 (naF (Ck3.2 _ (Safe.new ge_b6)) (naF (Ck3.2 _ (Safe.new ge_b6)) na0)) Ah4.1
 have Ah5 := Ah4.trans Ck4.1
 obtain ⟨T12, h12, X12, e12, E12, A12, D12, -, st12⟩ := newO X7 hx hZ hown (w31 hw) (w32 hw) (w33 hw) rfl (g := (mkF m 54 #[vi p0, vi p1, vi p2, vi p3, vi 2, vi 2, vr b1, vr b6, .unset, .unset, .unset, .unset] [])) rfl (hb hby at_54) (by decide) (by decide)
 obtain ⟨b12, g12⟩ : ∃ z, z = T7.heap.size := ⟨_, rfl⟩
 rw [← g12] at A12 D12 st12
 have ge_b12 : T7.heap.size ≤ b12 := Nat.le_of_eq g12.symm
 have K12 := KL.ofE E12
 have Ck5 := own_chK K12 na0 Ah5.1
 have Ah6 := Ah5.trans Ck5.1
 have F_b12_singleton : Fd5 Z h12 b12 z0 := D12 (Or.inl (w39 hw)) (ty := .boolean) (by decide)
 have F_b12_initMethodRequired : Fd6 Z h12 b12 z0 := D12 (Or.inl (w41 hw)) (ty := .boolean) (by decide)
 have F_b12_destroyMethodRequired : Fd7 Z h12 b12 z0 := D12 (Or.inl (w43 hw)) (ty := .boolean) (by decide)
 have F_b12_dependsOn : Fd8 Z h12 b12 .null := D12 (Or.inr (w69 hw)) (ty := (.object "java/util/List")) (by decide)
 have F_b12_autowireCandidate : Fd9 Z h12 b12 z0 := D12 (Or.inl (w71 hw)) (ty := .boolean) (by decide)
 have F_b12_autowireMode : Fd10 Z h12 b12 .null := D12 (Or.inl (w76 hw)) (ty := (.object "com/example/graft_container/graftcontainer/BeanDefinition$Autowire")) (by decide)
 have F_b12_qualifiers : Fd11 Z h12 b12 .null := D12 (Or.inr (w104 hw)) (ty := (.object "java/util/Map")) (by decide)
 have F_b12_propertyValues : Fd12 Z h12 b12 .null := D12 (Or.inr (w106 hw)) (ty := (.object "java/util/List")) (by decide)
 have F_b12_constructorArguments : Fd13 Z h12 b12 .null := D12 (Or.inr (w108 hw)) (ty := (.object "java/util/List")) (by decide)
 have F_b12_dependsOnView : Fd14 Z h12 b12 .null := D12 (Or.inr (w153 hw)) (ty := (.object "java/util/List")) (by decide)
 have F_b12_qualifiersView : Fd15 Z h12 b12 .null := D12 (Or.inr (w174 hw)) (ty := (.object "java/util/Map")) (by decide)
 have F_b12_propertyValuesView : Fd16 Z h12 b12 .null := D12 (Or.inr (w176 hw)) (ty := (.object "java/util/List")) (by decide)
 have F_b12_constructorArgumentsView : Fd17 Z h12 b12 .null := D12 (Or.inr (w178 hw)) (ty := (.object "java/util/List")) (by decide)
 have F_b12_changeListeners : Fd18 Z h12 b12 .null := D12 (Or.inl (w186 hw)) (ty := (.object "java/util/List")) (by decide)
 have F_b12_outers : Fd19 Z h12 b12 .null := D12 (Or.inl (w188 hw)) (ty := (.object "java/util/List")) (by decide)
 have F_b12_frozen : Fd20 Z h12 b12 z0 := D12 (Or.inl (w203 hw)) (ty := .boolean) (by decide)
 have F_b12_parentName : Fd21 Z h12 b12 .null := D12 (Or.inl (w310 hw)) (ty := (.object "java/lang/String")) (by decide)
 have F_b12_scope : Fd22 Z h12 b12 .null := D12 (Or.inl (w322 hw)) (ty := (.object "java/lang/String")) (by decide)
 have sz_0_5 := (Nat.le_trans sz_0_4 K7.1)
 have gg14 := Nat.le_trans Z0 (Nat.le_trans sz_0_5 ge_b12)
 have f15 := (kOld K12 (kOld K7 f9 (naG gg10 (naG gg10 na0))) na0)
 have sz_0_6 := (Nat.le_trans sz_0_5 K12.1)
 obtain ⟨_, T13, L13, X13, hQ13, st13⟩ := own_init X12 hx hZ rfl hown (w34 hw) (w35 hw) (w33 hw) (w36 hw) (by decide) (r12__init_ l Z a0 hw [] b12 st_DC st_NO m_AL m_UL m_UR m_LM m_UM st_EL h12 n0 (Nat.le_trans Z0 sz_0_6) F_b12_singleton A12 gg14 F_b12_initMethodRequired F_b12_destroyMethodRequired S_DEFAULTCAPACITY_EMPTY_ELEMENTDATA f15 F_b12_dependsOn F_b12_autowireCandidate S_NO F_b12_autowireMode F_b12_qualifiers F_b12_propertyValues F_b12_constructorArguments M_java_util_ArrayList M_java_util_Collections_UnmodifiableList M_java_util_Collections_UnmodifiableRandomAccessList F_b12_dependsOnView M_java_util_LinkedHashMap M_java_util_Collections_UnmodifiableMap F_b12_qualifiersView F_b12_propertyValuesView F_b12_constructorArgumentsView S_EMPTY_LIST F_b12_changeListeners F_b12_outers) e12 (W := 1) (by decide) (g := (mkF m 58 #[vi p0, vi p1, vi p2, vi p3, vi 2, vi 2, vr b1, vr b6, .unset, .unset, .unset, .unset] [(.ref b12), (.ref b12)])) rfl hml.symm (argsL := []) (rest := [(.ref b12)]) (lenOf pd_9 rfl) rfl rfl (own_wr rfl rfl) (hb hby at_58)
 obtain ⟨b9_13, b27_13, b34_13, b42_13, r_55_13, r_64_13, r_71_13, r_78_13, rfl, N13q, K13, Q13_0, Q13_1, Q13_2, Q13_3, Q13_4, Q13_5, Q13_6, Q13_7, Q13_8, Q13_9, Q13_10, Q13_11, Q13_12, Q13_13, Q13_14, Q13_15, Q13_16, Q13_17, Q13_18, Q13_19, Q13_20, Q13_21, Q13_22⟩ := hQ13
 have N13 := Fr.app N7 N13q
 have Ck6 := own_chK K13 (naFM 15 rfl (Safe.exa hZ.alike A12 (by decide) (by decide)) na0) Ah6.1
 have Ah7 := Ah6.trans Ck6.1
 have f17 := (kExa K13 A12)
 have f18 := (kFld K13 F_b12_frozen (nwf_2 hw b12))
 have f19 := (kExa K13 (kExa K12 (kExa K7 (kExa K6 (kExa K4 (kExa K2 (kExa K1 E_st_EL)))))))
 have lt_st_EL : st_EL < h0.size := Exa.lt E_st_EL
 have ne20 := lt_ne lt_st_EL ge_b1
 have ne21 := lt_ne (Nat.lt_of_lt_of_le lt_st_EL sz_0_3) ge_b6
 have ne22 := lt_ne (Nat.lt_of_lt_of_le lt_st_EL sz_0_5) ge_b12
 have f23 := (kFld K13 (kFld K12 (kFld K7 (kFld K6 (kFld K4 (kFld K2 (kFld K1 F_st_EL_elements nw0) (nwL ne20 nw0)) (nwL ne20 nw0)) nw0) (nwL ne21 (nwL ne21 nw0))) nw0) (nwM 15 rfl ne22 nw0))
 have lt_el_EL : el_EL < h0.size := Arv.lt V_el_EL
 have ne24 := lt_ne lt_el_EL ge_b1
 have ne25 := lt_ne (Nat.lt_of_lt_of_le lt_el_EL sz_0_3) ge_b6
 have ne26 := lt_ne (Nat.lt_of_lt_of_le lt_el_EL sz_0_5) ge_b12
 have f27 := (kArv K13 (kArv K12 (kArv K7 (kArv K6 (kArv K4 (kArv K2 (kArv K1 V_el_EL na0) (naN (Ne.symm ne24) na0)) (naN (Ne.symm ne24) na0)) na0) (naN (Ne.symm ne25) (naN (Ne.symm ne25) na0))) na0) (naNM 15 rfl (Ne.symm ne26) na0))
 have f28 := (kExa K13 (kExa K12 (kExa K7 A6)))
 have lt_b6 : b6 < h6.size := Exa.lt A6
 have ne29 := lt_ne (Nat.lt_of_lt_of_le lt_b6 K7.1) ge_b12
 have f30 := (kFld K13 (kFld K12 Q7_1 nw0) (nwM 15 rfl ne29 nw0))
 have f31 := (kFld K13 (kFld K12 Q7_2 nw0) (nwM 15 rfl ne29 nw0))
 have lt_b1_6_4_7 : b1_6_4_7 < T7.heap.size := Arv.lt Q7_3
 have ne32 := lt_ne lt_b1_6_4_7 ge_b12
 have f33 := (kArv K13 (kArv K12 Q7_3 na0) (naNM 15 rfl (Ne.symm ne32) na0))
 have f34 := (kExa K13 (kExa K12 (kExa K7 (kExa K6 (kExa K4 (kExa K2 (kExa K1 E_st_CD)))))))
 have lt_st_A : st_A < h0.size := Arv.lt V_st_A
 have ne35 := lt_ne lt_st_A ge_b1
 have ne36 := lt_ne (Nat.lt_of_lt_of_le lt_st_A sz_0_3) ge_b6
 have ne37 := lt_ne (Nat.lt_of_lt_of_le lt_st_A sz_0_5) ge_b12
 have f38 := (kArv K13 (kArv K12 (kArv K7 (kArv K6 (kArv K4 (kArv K2 (kArv K1 V_st_A na0) (naN (Ne.symm ne35) na0)) (naN (Ne.symm ne35) na0)) na0) (naN (Ne.symm ne36) (naN (Ne.symm ne36) na0))) na0) (naNM 15 rfl (Ne.symm ne37) na0))
 have f39 := (kOld K13 f15 (naGM 15 rfl gg14 na0))
 have f40 := (kFld K13 F_b12_parentName (nwf_1 hw b12))
 have f41 := (kFld K13 F_b12_scope (nwf_0 hw b12))
 have sz_0_7 := (Nat.le_trans sz_0_6 K13.1)
 obtain ⟨_, T16, L16, X16, hS16, hk16, hZ16, hown16, hQ16, hC16, st16⟩ := own_Hvirtual X13 hx hZ hown (w189 hw) (w190 hw) (nfS hZ (w192 hw)) (w192 hw) (w191 hw) (w33 hw) (w193 hw) (by decide) (r21_setParentName l Z a0 hw [] b12 b6 st_EL el_EL k_el_EL cs b1_6_4_7 ((own_c0 p2).toInt8.toInt32) ((p3 &&& (255 : Int32)).toInt8.toInt32) k1_6_4_7 st_CD st_A tA k_st_A T13.heap n0 (Nat.le_trans Z0 sz_0_7) f17 f18 Q13_22 f19 f23 f27 Q13_21 f28 sCS f30 f31 f33 S_instance f34 S_A f38 f39 hcs (own_nsp p2 (by decide)) (own_nsp p2 (by decide)) (own_nws p2 hA) f40 gg14 f41 Q13_8) rfl f17 (W := 0) (by decide) (g := (mkF m 79 #[vi p0, vi p1, vi p2, vi p3, vi 2, vi 2, vr b1, vr b6, vr b12, .unset, .unset, .unset] [(.ref b6), (.ref b12)])) rfl hml.symm (argsL := [(.ref b6)]) (rest := []) (lenOf pd_25 rfl) rfl rfl (own_wr rfl rfl) (hb hby at_79) hS0 (Nat.le_trans hk0 sz_0_7) (own_EW hw) Ah7.1 sf0
 obtain ⟨rfl, N16q, K16, Q16_0, Q16_1⟩ := hQ16
 have N16 := Fr.app N13 N16q
 have Ah8 := Ah7.trans hC16
 have f43 := (kExa K16 f17)
 have f44 := (kFld K16 f18 (nwR (sn_281 hw) (nwR (sn_280 hw) nw0)))
 have f45 := (kFld K16 Q13_22 (nwR (sn_282 hw) (nwR (sn_117 hw) nw0)))
 have f46 := (kExa K16 f19)
 have f47 := (kFld K16 f23 (nwL ne22 (nwL ne22 nw0)))
 have f48 := (kArv K16 f27 (naN (Ne.symm ne26) (naN (Ne.symm ne26) na0)))
 have f49 := (kFld K16 Q13_21 (nwR (sn_283 hw) (nwR (sn_104 hw) nw0)))
 have f50 := (kFld K16 f41 (nwR (sn_264 hw) (nwR (sn_236 hw) nw0)))
 have f51 := (kOld K16 f39 (naG gg14 (naG gg14 na0)))
 have sz_0_8 := (Nat.le_trans sz_0_7 K16.1)
 obtain ⟨_, T42, L42, X42, hS42, hk42, hZ42, hown42, hQ42, hC42, st42⟩ := own_Hvirtual X16 hx hZ16 hown16 (w189 hw) (w190 hw) (nfS hZ16 (w192 hw)) (w192 hw) (w191 hw) (w33 hw) (w193 hw) (by decide) (r42_setParentName l Z a0 hw [] b12 st_EL el_EL k_el_EL b6 cs T16.heap n0 (Nat.le_trans Z0 sz_0_8) f43 f44 f45 f46 f47 f48 f49 Q16_0 gg14 f50 sCS hcs f51 Q16_1) rfl f43 (W := 0) (by decide) (g := (mkF m 91 #[vi p0, vi p1, vi p2, vi p3, vi 2, vi 2, vr b1, vr b6, vr b12, .unset, .unset, .unset] [.null, (.ref b12)])) rfl hml.symm (argsL := [.null]) (rest := []) (lenOf pd_25 rfl) rfl rfl (own_wr rfl rfl) (hb hby at_91) hS16 hk16 (own_EW hw) Ah8.1 sf0
 obtain ⟨rfl, N42q, K42, Q42_0, Q42_1⟩ := hQ42
 have N42 := Fr.app N16 N42q
 have Ah9 := Ah8.trans hC42
 obtain ⟨c52, T52, h52, k52, b52, kb52, X52, e52, E52, hS52, hk52, hZ52, hown52, Ex52, Fc52, Fv52, Ar52, lta52, ltb52, hC52, Lt52, hne52, st52⟩ := ldcCH X42 hx hZ42 hown42 (w336 hw) (own_wS hw) rfl hS42 hk42 (own_EW hw) (by decide) Ah9.1 (vs := [(.int 112), (.int 114), (.int 111), (.int 116), (.int 111), (.int 116), (.int 121), (.int 112), (.int 101)]) (z := 9) ⟨by decide, rfl⟩ (by decide) rfl (g := (mkF m 118 #[vi p0, vi p1, vi p2, vi p3, vi 2, vi 2, vr b1, vr b6, vr b12, .unset, .unset, .unset] [(.ref b12)])) rfl (hb hby at_118) (n := 36) (by decide) (by decide) (by decide) (by decide)
 have K52 := KL.ofE E52
 have Ah10 := Ah9.trans hC52
 have f54 := (kExa K52 (kExa K42 f43))
 have f55 := (kFld K52 (kFld K42 f44 (nwR (sn_281 hw) (nwR (sn_280 hw) nw0))) nw0)
 have f56 := (kFld K52 (kFld K42 f45 (nwR (sn_282 hw) (nwR (sn_117 hw) nw0))) nw0)
 have f57 := (kExa K52 (kExa K42 f46))
 have f58 := (kFld K52 (kFld K42 f47 (nwL ne22 (nwL ne22 nw0))) nw0)
 have f59 := (kArv K52 (kArv K42 f48 (naN (Ne.symm ne26) (naN (Ne.symm ne26) na0))) na0)
 have f60 := (kFld K52 (kFld K42 f49 (nwR (sn_283 hw) (nwR (sn_104 hw) nw0))) nw0)
 have f61 := (kOld K52 (kOld K42 f51 (naG gg14 (naG gg14 na0))) na0)
 have f62 := (kFld K52 (kFld K42 f50 (nwR (sn_264 hw) (nwR (sn_236 hw) nw0))) nw0)
 have f63 := (kFld K52 Q42_1 nw0)
 have sz_0_9 := (Nat.le_trans sz_0_8 K42.1)
 have sz_0_10 := (Nat.le_trans sz_0_9 K52.1)
 obtain ⟨_, T53, L53, X53, hS53, hk53, hZ53, hown53, hQ53, hC53, st53⟩ := own_Hvirtual X52 hx hZ52 hown52 (w330 hw) (w331 hw) (nfS hZ52 (w333 hw)) (w333 hw) (w332 hw) (w33 hw) (w334 hw) (by decide) (r50_setScope l Z a0 hw [] b12 c52 st_EL el_EL k_el_EL cs b52 kb52 h52 n0 (Nat.le_trans Z0 sz_0_10) f54 f55 f56 f57 f58 f59 f60 Ex52 sCS Fc52 Fv52 Ar52 f61 hcs f62 gg14 f63) e52 f54 (W := 0) (by decide) (g := (mkF m 120 #[vi p0, vi p1, vi p2, vi p3, vi 2, vi 2, vr b1, vr b6, vr b12, .unset, .unset, .unset] [(.ref c52), (.ref b12)])) rfl hml.symm (argsL := [(.ref c52)]) (rest := []) (lenOf pd_25 rfl) rfl rfl (own_wr rfl rfl) (hb hby at_120) hS52 hk52 (own_EW hw) Ah10.1 sf0
 obtain ⟨c27_53, b27_53, kb27_53, rfl, N53q, K53, Q53_0, Q53_1, Q53_2, Q53_3, Q53_4, Q53_5, Q53_6, Q53_7⟩ := hQ53
 have N53 := Fr.app N42 N53q
 have Ah11 := Ah10.trans hC53
 have sz_0_11 := (Nat.le_trans sz_0_10 K53.1)
 have f65 := (kExa K53 f54)
 obtain ⟨_, T64, L64, X64, hQ64, st64⟩ := own_virtual X53 hx hZ53 hown53 (w328 hw) (w317 hw) (nfS hZ53 (w319 hw)) (w319 hw) (w318 hw) (w33 hw) (w320 hw) (by decide) (r47_getScope l Z a0 hw [] b12 c27_53 T53.heap n0 (Nat.le_trans Z0 sz_0_11) Q53_2) rfl f65 (W := 0) (by decide) (g := (mkF m 157 #[vi p0, vi p1, vi p2, vi p3, vi 2, vi 2, vr b1, vr b6, vr b12, vi 0, .unset, .unset] [(.ref b12)])) rfl hml.symm (argsL := []) (rest := []) (lenOf pd_13 rfl) rfl rfl (own_wr rfl rfl) (hb hby at_157)
 obtain ⟨rfl, N64q, e64⟩ := hQ64
 have N64 := Fr.app N53 N64q
 obtain ⟨c66, T66, h66, k66, b66, kb66, X66, e66, E66, hS66, hk66, hZ66, hown66, Ex66, Fc66, Fv66, Ar66, lta66, ltb66, hC66, Lt66, hne66, st66⟩ := ldcCH X64 hx hZ53 hown53 (w336 hw) (own_wS hw) e64 hS53 hk53 (own_EW hw) (by decide) Ah11.1 (vs := [(.int 112), (.int 114), (.int 111), (.int 116), (.int 111), (.int 116), (.int 121), (.int 112), (.int 101)]) (z := 9) ⟨by decide, rfl⟩ (by decide) rfl (g := (mkF m 181 #[vi p0, vi p1, vi p2, vi p3, vi 2, vi 2, vr b1, vr b6, vr b12, vi 0, vr c27_53, .unset] [])) rfl (hb hby at_181) (n := 36) (by decide) (by decide) (by decide) (by decide)
 have K66 := KL.ofE E66
 have Ah12 := Ah11.trans hC66
 have f68 := (kExa K66 Q53_4)
 have f69 := (kOld K66 (kOld K53 f61 (naG gg14 (naG gg14 na0))) na0)
 have f70 := (kFld K66 Q53_5 nw0)
 have f71 := (kFld K66 Q53_6 nw0)
 have f72 := (kArv K66 Q53_7 na0)
 have sz_0_12 := (Nat.le_trans sz_0_11 K66.1)
 obtain ⟨_, T67, L67, X67, hQ67, st67⟩ := own_virtual X66 hx hZ66 hown66 (w335 hw) (w324 hw) (nfS hZ66 (w326 hw)) (w326 hw) (w325 hw) (w4 hw) (w327 hw) (by decide) (r_eqp l Z a0 hw [] c66 c27_53 b66 b27_53 cs kb66 kb27_53 h66 n0 (Nat.le_trans Z0 sz_0_12) hcs f68 sCS f69 Fc66 f70 Fv66 f71 Ar66 f72) e66 Ex66 (W := 0) (by decide) (g := (mkF m 228 #[vi p0, vi p1, vi p2, vi p3, vi 2, vi 2, vr b1, vr b6, vr b12, vi 0, vr c27_53, vr c66] [(.ref c27_53), (.ref c66)])) rfl hml.symm (argsL := [(.ref c27_53)]) (rest := []) (lenOf pd_14 rfl) rfl rfl (own_wr rfl rfl) (hb hby at_228)
 obtain ⟨rfl, N67q, e67⟩ := hQ67
 have N67 := Fr.app N64 N67q
 refine ⟨T67, _, some (.int 1), _, _, X67, hS66, (by rw [e67]; exact hk66), (fun h => by cases h <;> rfl), ?_, (by rw [e67]; exact Ah12), hZ66, fun fs hr => ?_⟩
 · show Q_law n0 _ _
   exact ⟨rfl, N67⟩
 refine t_iloadN 1 X0.here hx hby at_0 rfl rfl ?_
 refine X0.ldcInt hx hown (mvT hZ (w0 hw)) (g := (mkF m 1 #[vi p0, vi p1, vi p2, vi p3, .unset, .unset, .unset, .unset, .unset, .unset, .unset, .unset] [(.int p0)])) rfl (hb hby at_1) _ ?_
 refine t_iand 4 X0.here hx hby at_3 rfl rfl ?_
 refine t_iconst 5 (r := 3) X0.here hx hby at_4 (by decide) rfl ?_
 refine t_irem 6 (r := 2) X0.here hx hby at_5 (by decide) hs rfl ?_
 refine t_istore (pc' := 8) (L' := #[vi p0, vi p1, vi p2, vi p3, vi 2, .unset, .unset, .unset, .unset, .unset, .unset, .unset]) X0.here hx hby at_6 rfl rfl ?_
 refine t_iloadN 9 X0.here hx hby at_8 rfl rfl ?_
 refine t_iconst 10 (r := 3) X0.here hx hby at_9 (by decide) rfl ?_
 refine t_iand 11 (r := 2) X0.here hx hby at_10 hpm rfl ?_
 refine t_istore (pc' := 13) (L' := #[vi p0, vi p1, vi p2, vi p3, vi 2, vi 2, .unset, .unset, .unset, .unset, .unset, .unset]) X0.here hx hby at_11 rfl rfl ?_
 refine t_iconst 14 (r := 2) X0.here hx hby at_13 (by decide) rfl ?_
 refine st1 _ ?_
 refine t_astore (pc' := 18) (L' := #[vi p0, vi p1, vi p2, vi p3, vi 2, vi 2, vr b1, .unset, .unset, .unset, .unset, .unset]) X1.here hx hby at_16 rfl rfl rfl ?_
 refine t_aload 20 X1.here hx hby at_18 rfl rfl rfl ?_
 refine t_iconst 21 (r := 0) X1.here hx hby at_20 (by decide) rfl ?_
 refine t_bipush 23 (r := 33) X1.here hx hby at_21 (by decide) rfl ?_
 refine t_iloadN 24 X1.here hx hby at_23 rfl rfl ?_
 refine X1.ldcInt hx hown (mvT hZ (w0 hw)) (g := (mkF m 24 #[vi p0, vi p1, vi p2, vi p3, vi 2, vi 2, vr b1, .unset, .unset, .unset, .unset, .unset] [(.int p2), (.int 33), z0, (.ref b1)])) rfl (hb hby at_24) _ ?_
 refine t_iand 27 X1.here hx hby at_26 rfl rfl ?_
 refine t_bipush 29 (r := 94) X1.here hx hby at_27 (by decide) rfl ?_
 refine t_irem 30 X1.here hx hby at_29 (by decide) rfl rfl ?_
 refine t_iadd 31 (r := (own_c0 p2)) X1.here hx hby at_30 (Eq.refl (own_c0 p2)) rfl ?_
 refine t_i2c 32 (r := (own_c0 p2)) X1.here hx hby at_31 (own_c2c (own_c0a p2) (own_c0b p2)) rfl ?_
 refine st2 _ ?_
 refine t_aload 35 X2.here hx hby at_33 rfl rfl rfl ?_
 refine t_iconst 36 (r := 1) X2.here hx hby at_35 (by decide) rfl ?_
 refine t_iloadN 37 X2.here hx hby at_36 rfl rfl ?_
 refine t_sipush 40 (r := 255) X2.here hx hby at_37 (by decide) rfl ?_
 refine t_iand 41 X2.here hx hby at_40 rfl rfl ?_
 refine t_i2c 42 (r := (p3 &&& (255 : Int32))) X2.here hx hby at_41 (i2c_mask _) rfl ?_
 refine st4 _ ?_
 refine st6 _ ?_
 refine t_dup 47 X6.here hx hby at_46 rfl rfl ?_
 refine t_aload 49 X6.here hx hby at_47 rfl rfl rfl ?_
 refine st7 _ ?_
 refine t_astore (pc' := 54) (L' := #[vi p0, vi p1, vi p2, vi p3, vi 2, vi 2, vr b1, vr b6, .unset, .unset, .unset, .unset]) X7.here hx hby at_52 rfl rfl rfl ?_
 refine st12 _ ?_
 refine t_dup 58 X12.here hx hby at_57 rfl rfl ?_
 refine st13 _ ?_
 refine t_astore (pc' := 63) (L' := #[vi p0, vi p1, vi p2, vi p3, vi 2, vi 2, vr b1, vr b6, vr b12, .unset, .unset, .unset]) X13.here hx hby at_61 rfl rfl rfl ?_
 refine t_iload 65 X13.here hx hby at_63 rfl rfl ?_
 refine t_iconst 66 (r := 1) X13.here hx hby at_65 (by decide) rfl ?_
 refine t_icmpNo 69 X13.here hx hby at_66 (by decide) rfl ?_
 refine t_iload 71 X13.here hx hby at_69 rfl rfl ?_
 refine t_iconst 72 (r := 2) X13.here hx hby at_71 (by decide) rfl ?_
 refine t_icmpNo 75 X13.here hx hby at_72 (by decide) rfl ?_
 refine t_aload 77 X13.here hx hby at_75 rfl rfl rfl ?_
 refine t_aload 79 X13.here hx hby at_77 rfl rfl rfl ?_
 refine st16 _ ?_
 refine t_iload 84 X16.here hx hby at_82 rfl rfl ?_
 refine t_iconst 85 (r := 2) X16.here hx hby at_84 (by decide) rfl ?_
 refine t_icmpNo 88 X16.here hx hby at_85 (by decide) rfl ?_
 refine t_aload 90 X16.here hx hby at_88 rfl rfl rfl ?_
 refine t_aconst_null 91 X16.here hx hby at_90 rfl ?_
 refine st42 _ ?_
 refine t_iload 96 X42.here hx hby at_94 rfl rfl ?_
 refine t_iconst 97 (r := 1) X42.here hx hby at_96 (by decide) rfl ?_
 refine t_icmpYes (pc := 97) 110 X42.here hx hby at_97 (by decide) (by decide) (by decide) ?_
 refine t_iload 112 X42.here hx hby at_110 rfl rfl ?_
 refine t_iconst 113 (r := 2) X42.here hx hby at_112 (by decide) rfl ?_
 refine t_icmpNo 116 X42.here hx hby at_113 (by decide) rfl ?_
 refine t_aload 118 X42.here hx hby at_116 rfl rfl rfl ?_
 refine st52 _ ?_
 refine st53 _ ?_
 refine t_iload 125 X53.here hx hby at_123 rfl rfl ?_
 refine t_iconst 126 (r := 3) X53.here hx hby at_125 (by decide) rfl ?_
 refine t_icmpYes (pc := 126) 136 X53.here hx hby at_126 (by decide) (by decide) (by decide) ?_
 refine t_iload 138 X53.here hx hby at_136 rfl rfl ?_
 refine t_iconst 139 (r := 1) X53.here hx hby at_138 (by decide) rfl ?_
 refine t_icmpNo 142 X53.here hx hby at_139 (by decide) rfl ?_
 refine t_iload 144 X53.here hx hby at_142 rfl rfl ?_
 refine t_iconst 145 (r := 3) X53.here hx hby at_144 (by decide) rfl ?_
 refine t_icmpYes (pc := 145) 152 X53.here hx hby at_145 (by decide) (by decide) (by decide) ?_
 refine t_iconst 153 (r := 0) X53.here hx hby at_152 (by decide) rfl ?_
 refine t_istore (pc' := 155) (L' := #[vi p0, vi p1, vi p2, vi p3, vi 2, vi 2, vr b1, vr b6, vr b12, vi 0, .unset, .unset]) X53.here hx hby at_153 rfl rfl ?_
 refine t_aload 157 X53.here hx hby at_155 rfl rfl rfl ?_
 refine st64 _ ?_
 refine t_astore (pc' := 162) (L' := #[vi p0, vi p1, vi p2, vi p3, vi 2, vi 2, vr b1, vr b6, vr b12, vi 0, vr c27_53, .unset]) X64.here hx hby at_160 rfl rfl rfl ?_
 refine t_iload 164 X64.here hx hby at_162 rfl rfl ?_
 refine t_iconst 165 (r := 1) X64.here hx hby at_164 (by decide) rfl ?_
 refine t_icmpYes (pc := 165) 175 X64.here hx hby at_165 (by decide) (by decide) (by decide) ?_
 refine t_iload 177 X64.here hx hby at_175 rfl rfl ?_
 refine t_iconst 178 (r := 2) X64.here hx hby at_177 (by decide) rfl ?_
 refine t_icmpNo 181 X64.here hx hby at_178 (by decide) rfl ?_
 refine st66 _ ?_
 refine t_astore (pc' := 185) (L' := #[vi p0, vi p1, vi p2, vi p3, vi 2, vi 2, vr b1, vr b6, vr b12, vi 0, vr c27_53, vr c66]) X66.here hx hby at_183 rfl rfl rfl ?_
 refine t_goto (pc := 185) 203 X66.here hx hby at_185 (by decide) (by decide) ?_
 refine t_aload 205 X66.here hx hby at_203 rfl rfl rfl ?_
 refine t_ifnonnullYes (pc := 205) 219 X66.here hx hby at_205 (by decide) (by decide) ?_
 refine t_aload 221 X66.here hx hby at_219 rfl rfl rfl ?_
 refine t_ifnullNo 224 X66.here hx hby at_221 rfl ?_
 refine t_aload 226 X66.here hx hby at_224 rfl rfl rfl ?_
 refine t_aload 228 X66.here hx hby at_226 rfl rfl rfl ?_
 refine st67 _ ?_
 refine t_ifNo 234 X67.here hx hby at_231 (by decide) rfl ?_
 refine t_iconst 235 (r := 1) X67.here hx hby at_234 (by decide) rfl ?_
 refine t_goto (pc := 235) 239 X67.here hx hby at_235 (by decide) (by decide) ?_
 exact retN X67 hx (t := .boolean) hret (by simp) (hb hby at_239) hr
def WS_r55_setParentName (Z : State) (o0 : Addr) : List (Addr × Nat) := [(o0, (sl21 Z)), (o0, (sl5 Z))]
def Q_r55_setParentName (Z : State) (o0 o1 o_1 o_2 : Addr) (k_o_2 : ClassId) (i_5 : Int32) (o_6 : Addr) (i_7 i_8 : Int32) (k_o_6 : ClassId) (o_9 o_10 : Addr) (l_11 : List Value) (k_o_10 : ClassId) (o_23 o_24 : Addr) (k_o_24 : ClassId) (h0 : Heap) (n0 : Nat) (v : Option Value) (h : Heap) (L : List Loc) : Prop := v = none ∧ Fr n0 L ∧ KL h0 h (WS_r55_setParentName Z o0) ∧ Fd21 Z h o0 (.ref o1) ∧ Fd5 Z h o0 z0
theorem r55_setParentName (l : Launch) (Z : State) (a0 : Array Value) (hw : HW Z a0) (ws : List Jvm.Cond) (o0 o1 o_1 o_2 : Addr) (k_o_2 : ClassId) (i_5 : Int32) (o_6 : Addr) (i_7 i_8 : Int32) (k_o_6 : ClassId) (o_9 o_10 : Addr) (l_11 : List Value) (k_o_10 : ClassId) (o_23 o_24 : Addr) (k_o_24 : ClassId) (h0 : Heap) (n0 : Nat) (Z0 : n0 ≤ h0.size) (E_o0 : Ex5 Z h0 o0) (F_o0_frozen : Fd20 Z h0 o0 z0) (F_o0_outers : Fd19 Z h0 o0 (.ref o_1)) (E_o_1 : Ex6 Z h0 o_1) (F_o_1_elements : Fd28 Z h0 o_1 (.ref o_2)) (V_o_2 : Arv Z h0 o_2 k_o_2 (.object "java/lang/Object") (0 : Int32) [] .null) (F_o0_changeListeners : Fd18 Z h0 o0 (.ref o_1)) (E_o1 : Ex4 Z h0 o1) (sCS : SCS Z i_5) (F_o1_coder : Fd3 Z h0 o1 z0) (F_o1_value : Fd4 Z h0 o1 (.ref o_6)) (V_o_6 : Arv Z h0 o_6 k_o_6 .byte 2 [(.int i_7), (.int i_8)] z0) (S_instance : Sa4 Z (.ref o_9)) (E_o_9 : Ex8 Z h0 o_9) (S_A : Sa3 Z (.ref o_10)) (V_o_10 : Arv Z h0 o_10 k_o_10 .int 256 l_11 z0) (O0 : Old Z n0 h0) (hp0 : ¬ (i_5 = (0 : Int32))) (hp1 : ¬ ((i_7 &&& (255 : Int32)) = (32 : Int32))) (hp2 : ¬ ((i_7 &&& (255 : Int32)) = (9 : Int32))) (hp3 : ¬ (((own_ai l_11 (i_7 &&& (255 : Int32))) &&& (28672 : Int32)) = (16384 : Int32))) (F_o0_parentName : Fd21 Z h0 o0 .null) (g_o0 : n0 ≤ o0) (F_o0_scope : Fd22 Z h0 o0 (.ref o_23)) (E_o_23 : Ex4 Z h0 o_23) (F_o_23_coder : Fd3 Z h0 o_23 z0) (F_o_23_value : Fd4 Z h0 o_23 (.ref o_24)) (V_o_24 : Arv Z h0 o_24 k_o_24 .byte 9 [(.int 112), (.int 114), (.int 111), (.int 116), (.int 111), (.int 116), (.int 121), (.int 112), (.int 101)] z0) (ne_o0_o_24 : o0 ≠ o_24) (F_o0_singleton : Fd5 Z h0 o0 z0) :
    OMH l Z consts_1 [] y40_setParentName b22_ 2 none ws ⟨6, 6, 228, 82⟩ #[(.ref o0), (.ref o1)] h0 (Q_r55_setParentName Z o0 o1 o_1 o_2 k_o_2 i_5 o_6 i_7 i_8 k_o_6 o_9 o_10 l_11 k_o_10 o_23 o_24 k_o_24 h0 n0) := by
 refine own_bodyH (k := 6) (n := 228) (own_EW hw) (plainFor_of_name pn_BeanDefinition762) (ef_0 o0 o1) (by decide) (by decide) ?_
 intro p e s m below meth c s₁ hx hby hml hown hnm hret hZ e0 hS0 hk0 X0 hC0 hSF0
 have N0 := Fr.nil n0
 obtain ⟨_, T3, L3, X3, hQ3, st3⟩ := own_private X0 hx hZ hown (w194 hw) (w195 hw) (w192 hw) rfl (w196 hw) (w33 hw) (w197 hw) (by decide) (r22_beginChange l Z a0 hw [] o0 o_1 o_2 k_o_2 h0 n0 Z0 E_o0 F_o0_frozen F_o0_outers E_o_1 F_o_1_elements V_o_2 F_o0_changeListeners) e0 E_o0 (W := 0) (by decide) (g := (mkF m 1 #[vr o0, vr o1] [(.ref o0)])) rfl hml.symm (argsL := []) (rest := []) (lenOf pd_9 rfl) rfl rfl (own_wr rfl rfl) (hb hby d291)
 obtain ⟨rfl, N3q, K3⟩ := hQ3
 have N3 := Fr.app N0 N3q
 have Ck0 := own_chK K3 na0 (CHr.refl hC0).1
 have Ah1 := (CHr.refl hC0).trans Ck0.1
 obtain ⟨c4, T4, h4, k4, b4, kb4, X4, e4, E4, hS4, hk4, hZ4, hown4, Ex4, Fc4, Fv4, Ar4, lta4, ltb4, hC4, Lt4, hne4, st4⟩ := ldcCH X3 hx hZ hown (w258 hw) (own_wS hw) rfl hS0 (Nat.le_trans hk0 K3.1) (own_EW hw) (by decide) Ah1.1 (vs := [(.int 65), (.int 32), (.int 112), (.int 97), (.int 114), (.int 101), (.int 110), (.int 116), (.int 32), (.int 100), (.int 101), (.int 102), (.int 105), (.int 110), (.int 105), (.int 116), (.int 105), (.int 111), (.int 110), (.int 39), (.int 115), (.int 32), (.int 110), (.int 97), (.int 109), (.int 101), (.int 32), (.int 109), (.int 117), (.int 115), (.int 116), (.int 32), (.int 110), (.int 111), (.int 116), (.int 32), (.int 98), (.int 101), (.int 32), (.int 98), (.int 108), (.int 97), (.int 110), (.int 107)]) (z := 44) ⟨by decide, rfl⟩ (by decide) rfl (g := (mkF m 6 #[vr o0, vr o1] [(.ref o1), (.ref o0)])) rfl (hb hby d360) (n := 176) (by decide) (by decide) (by decide) (by decide)
 have K4 := KL.ofE E4
 have Ah2 := Ah1.trans hC4
 have f13 := (kExa K4 (kExa K3 E_o1))
 have f14 := (kFld K4 (kFld K3 F_o1_coder nw0) nw0)
 have f15 := (kFld K4 (kFld K3 F_o1_value nw0) nw0)
 have f16 := (kArv K4 (kArv K3 V_o_6 na0) na0)
 have f17 := (kExa K4 (kExa K3 E_o_9))
 have f18 := (kArv K4 (kArv K3 V_o_10 na0) na0)
 have f19 := (kOld K4 (kOld K3 O0 na0) na0)
 have sz_0_2 := (Nat.le_trans K3.1 K4.1)
 obtain ⟨_, T12, L12, X12, hQ12, st12⟩ := own_static X4 hx hZ4 hown4 (w261 hw) (w262 hw) (w33 hw) (w263 hw) (by decide) (r29_requireTextOrNull l Z a0 hw [] o1 c4 i_5 o_6 i_7 i_8 k_o_6 o_9 o_10 l_11 k_o_10 h4 n0 (Nat.le_trans Z0 sz_0_2) f13 sCS f14 f15 f16 S_instance f17 S_A f18 f19 hp0 hp1 hp2 hp3) e4 (W := 1) (by decide) (g := (mkF m 8 #[vr o0, vr o1] [(.ref c4), (.ref o1), (.ref o0)])) rfl hml.symm (argsL := [(.ref o1), (.ref c4)]) (rest := [(.ref o0)]) (lenOf pd_24 rfl) rfl rfl (own_wr rfl rfl) (hb hby d361)
 obtain ⟨rfl, N12q, e12⟩ := hQ12
 have N12 := Fr.app N3 N12q
 have f20 := (kFld K4 (kFld K3 F_o0_parentName nw0) nw0)
 have f21 := (kExa K4 (kExa K3 E_o0))
 obtain ⟨T22, h22, X22, e22, W22, st22⟩ := putF X12 hx hZ4 hown4 (host := "") (Or.inl (w309 hw)) Via.refl e12 f20 f21 (Or.inl (w310 hw)) (w32 hw) (ty := (.object "java/lang/String")) (by decide) rfl rfl (g := (mkF m 11 #[vr o0, vr o1] [(.ref o1), (.ref o0)])) rfl rfl (hb hby d457)
 have K22 := KL.ofW W22
 have Ck2 := own_chK K22 (naF (Safe.exa hZ4.alike f21 (by decide) (by decide)) na0) Ah2.1
 have Ah3 := Ah2.trans Ck2.1
 have Fw22 : Fd21 Z h22 o0 (.ref o1) := Fld.same W22 f20
 have N22 := Fr.snoc X22 N12 g_o0
 have f26 := (kExa K22 f21)
 have f27 := (kFld K22 (kFld K4 (kFld K3 F_o0_scope nw0) nw0) (nwR (sn_264 hw) nw0))
 have f28 := (kExa K22 (kExa K4 (kExa K3 E_o_23)))
 have f29 := (kFld K22 (kFld K4 (kFld K3 F_o_23_coder nw0) nw0) (nwL (Ne.symm (ne_exa E_o0 E_o_23 (by decide))) nw0))
 have f30 := (kFld K22 (kFld K4 (kFld K3 F_o_23_value nw0) nw0) (nwL (Ne.symm (ne_exa E_o0 E_o_23 (by decide))) nw0))
 have f31 := (kArv K22 (kArv K4 (kArv K3 V_o_24 na0) na0) (naN ne_o0_o_24 na0))
 have f32 := (kOld K22 f19 (naG g_o0 na0))
 have sz_0_3 := (Nat.le_trans sz_0_2 K22.1)
 obtain ⟨_, T25, L25, X25, hS25, hk25, hZ25, hown25, hQ25, hC25, st25⟩ := own_Hprivate X22 hx hZ4 hown4 (w311 hw) (w312 hw) (w192 hw) rfl (w313 hw) (w33 hw) (w314 hw) (by decide) (r53_singletonScope l Z a0 hw [] o0 o_23 i_5 o_24 k_o_24 h22 n0 (Nat.le_trans Z0 sz_0_3) f26 f27 f28 sCS f29 f30 f31 f32 hp0) e22 f26 (W := 1) (by decide) (g := (mkF m 16 #[vr o0, vr o1] [(.ref o0), (.ref o0)])) rfl hml.symm (argsL := []) (rest := [(.ref o0)]) (lenOf pd_16 rfl) rfl rfl (own_wr rfl rfl) (hb hby d460) hS4 (Nat.le_trans hk4 K22.1) (own_EW hw) Ah3.1 sf0
 obtain ⟨rfl, N25q, K25⟩ := hQ25
 have N25 := Fr.app N22 N25q
 have Ah4 := Ah3.trans hC25
 have f33 := (kFld K25 (kFld K22 (kFld K4 (kFld K3 F_o0_singleton nw0) nw0) (nwR (sn_265 hw) nw0)) nw0)
 have f34 := (kExa K25 f26)
 obtain ⟨T35, h35, X35, e35, W35, st35⟩ := putF X25 hx hZ25 hown25 (host := "") (Or.inl (w38 hw)) Via.refl rfl f33 f34 (Or.inl (w39 hw)) (w32 hw) (ty := .boolean) (by decide) (by decide) (by decide) (g := (mkF m 19 #[vr o0, vr o1] [z0, (.ref o0)])) rfl rfl (hb hby d469)
 have K35 := KL.ofW W35
 have Ck4 := own_chK K35 (naF (Safe.exa hZ25.alike f34 (by decide) (by decide)) na0) Ah4.1
 have Ah5 := Ah4.trans Ck4.1
 have Fw35 : Fd5 Z h35 o0 z0 := Fld.same W35 f33
 have N35 := Fr.snoc X35 N25 g_o0
 have C0 := (KL.refl h0 (WS_r55_setParentName Z o0)).trans K3 na0
 have C1 := C0.trans K4 na0
 have C2 := C1.trans K22 (naO (own_mi 0 rfl) na0)
 have C3 := C2.trans K25 na0
 have C4 := C3.trans K35 (naO (own_mi 1 rfl) na0)
 have f36 := (kFld K35 (kFld K25 Fw22 nw0) (nwR (sn_251 hw) nw0))
 refine ⟨T35, _, none, _, _, X35, hS25, (by rw [e35]; exact (Nat.le_trans hk25 K35.1)), (fun h => by cases h <;> rfl), ?_, (by rw [e35]; exact Ah5), hZ25, fun fs hr => ?_⟩
 · show Q_r55_setParentName Z o0 o1 o_1 o_2 k_o_2 i_5 o_6 i_7 i_8 k_o_6 o_9 o_10 l_11 k_o_10 o_23 o_24 k_o_24 h0 n0 _ T35.heap _
   rw [e35]
   exact ⟨rfl, N35, C4, f36, Fw35⟩
 refine t_aloadN 1 X0.here hx hby d290 rfl rfl rfl ?_
 refine st3 _ ?_
 refine t_aloadN 5 X3.here hx hby d358 rfl rfl rfl ?_
 refine t_aloadN 6 X3.here hx hby d359 rfl rfl rfl ?_
 refine st4 _ ?_
 refine st12 _ ?_
 refine st22 _ ?_
 refine t_aloadN 15 X22.here hx hby d458 rfl rfl rfl ?_
 refine t_aloadN 16 X22.here hx hby d459 rfl rfl rfl ?_
 refine st25 _ ?_
 refine st35 _ ?_
 exact X35.returnOut hx hret (hb hby d470) hr
theorem law_23 (l : Launch) (Z : State) (a0 : Array Value) (hw : HW Z a0) (ws : List Jvm.Cond) (p0 p1 p2 p3 cs : Int32) (st_NO st_DC st_EL el_EL st_CD st_A : Addr) (tA : List Value) (m_AL m_UL m_UR m_LM m_UM : Addr) (k_el_EL k_st_A : ClassId) (h0 : Heap) (n0 : Nat) (Z0 : n0 ≤ h0.size) (hcs : ¬ (cs = (0 : Int32))) (hA : TabA tA) (hs : ((p0 &&& (2147483647 : Int32)) - ((p0 &&& (2147483647 : Int32)) / (3 : Int32)) * (3 : Int32)) = (2 : Int32)) (hpm : (p1 &&& (3 : Int32)) = (3 : Int32)) (sCS : SCS Z cs) (O0 : Old Z n0 h0) (S_DEFAULTCAPACITY_EMPTY_ELEMENTDATA : Sa0 Z (.ref st_DC)) (S_NO : Sa2 Z (.ref st_NO)) (M_java_util_ArrayList : OMir Z "java/util/ArrayList" m_AL) (M_java_util_Collections_UnmodifiableList : OMir Z "java/util/Collections$UnmodifiableList" m_UL) (M_java_util_Collections_UnmodifiableRandomAccessList : OMir Z "java/util/Collections$UnmodifiableRandomAccessList" m_UR) (M_java_util_LinkedHashMap : OMir Z "java/util/LinkedHashMap" m_LM) (M_java_util_Collections_UnmodifiableMap : OMir Z "java/util/Collections$UnmodifiableMap" m_UM) (S_EMPTY_LIST : Sa1 Z (.ref st_EL)) (E_st_EL : Ex6 Z h0 st_EL) (F_st_EL_elements : Fd28 Z h0 st_EL (.ref el_EL)) (V_el_EL : Arv Z h0 el_EL k_el_EL (.object "java/lang/Object") (0 : Int32) [] .null) (S_instance : Sa4 Z (.ref st_CD)) (E_st_CD : Ex8 Z h0 st_CD) (S_A : Sa3 Z (.ref st_A)) (V_st_A : Arv Z h0 st_A k_st_A .int 256 tA z0) :
    LawM l Z ws p0 p1 p2 p3 h0 n0 := by
 refine own_bodyH (k := 34) (n := 583) (y := x) (Q := fun v _ L => Q_law n0 v L) (own_EW hw) (plainFor_of_name pn_BeanDefinitionGetScopePinLaw149) (ef_law p0 p1 p2 p3) (by decide) (by decide) ?_
 intro p e s m below meth c s₁ hx hby hml hown hnm hret hZ e0 hS0 hk0 X0 hC0 hSF0
 have N0 := Fr.nil n0
 obtain ⟨T1, h1, k1, X1, e1, E1, A1, st1⟩ := newP (aty := .char) X0 hx hZ (w1 hw) e0 (g := (mkF m 14 #[vi p0, vi p1, vi p2, vi p3, vi 2, vi 3, .unset, .unset, .unset, .unset, .unset, .unset] [(.int 2)])) rfl (hb hby at_14) rfl (by decide) (cap := 2) (by decide) (by decide) (by decide) (by decide)
 obtain ⟨b1, g1⟩ : ∃ z, z = h0.size := ⟨_, rfl⟩
 rw [← g1] at A1 st1
 have ge_b1 : h0.size ≤ b1 := Nat.le_of_eq g1.symm
 have K1 := KL.ofE E1
 have Ck0 := own_chK K1 na0 (CHr.refl hC0).1
 have Ah1 := (CHr.refl hC0).trans Ck0.1
 have V1 : Arv Z h1 b1 k1 .char 2 [z0, z0] z0 := (Arv.new A1 (by decide)).pad (pad_rep [] z0 2)
 obtain ⟨T2, h2, X2, e2, W2, V2, st2⟩ := own_astC X1 hx hZ e1 V1 (j := 0) (by decide) 0 rfl (Nat.le_of_ble_eq_true rfl) (g := (mkF m 32 #[vi p0, vi p1, vi p2, vi p3, vi 2, vi 3, vr b1, .unset, .unset, .unset, .unset, .unset] [(.int (own_c0 p2)), z0, (.ref b1)])) rfl rfl (hb hby at_32)
 rw [show (nar .char (own_c0 p2)) = (own_c0 p2) from (own_c2c (own_c0a p2) (own_c0b p2))] at V2
 have gg3 := Nat.le_trans Z0 ge_b1
 have K2 := KL.ofW W2
 have Ck1 := own_chK K2 (naF (Ck0.2 _ (Safe.new ge_b1)) na0) Ah1.1
 have Ah2 := Ah1.trans Ck1.1
 replace V2 : Arv Z h2 b1 k1 .char 2 [(.int (own_c0 p2)), z0] z0 := V2
 have N2 := Fr.snoc X2 N0 gg3
 obtain ⟨T4, h4, X4, e4, W4, V4, st4⟩ := own_astC X2 hx hZ e2 V2 (j := 1) (by decide) 1 rfl (Nat.le_of_ble_eq_true rfl) (g := (mkF m 42 #[vi p0, vi p1, vi p2, vi p3, vi 2, vi 3, vr b1, .unset, .unset, .unset, .unset, .unset] [(.int (p3 &&& (255 : Int32))), (.int 1), (.ref b1)])) rfl rfl (hb hby at_42)
 rw [show (nar .char (p3 &&& (255 : Int32))) = (p3 &&& (255 : Int32)) from (i2c_mask _)] at V4
 have K4 := KL.ofW W4
 have sf5 := (Ck1.2 _ (Ck0.2 _ (Safe.new ge_b1)))
 have Ck2 := own_chK K4 (naF sf5 na0) Ah2.1
 have Ah3 := Ah2.trans Ck2.1
 replace V4 : Arv Z h4 b1 k1 .char 2 [(.int (own_c0 p2)), (.int (p3 &&& (255 : Int32)))] z0 := V4
 have N4 := Fr.snoc X4 N2 gg3
 obtain ⟨T6, h6, X6, e6, E6, A6, D6, -, st6⟩ := newO X4 hx hZ hown (w2 hw) (w3 hw) (w4 hw) e4 (g := (mkF m 43 #[vi p0, vi p1, vi p2, vi p3, vi 2, vi 3, vr b1, .unset, .unset, .unset, .unset, .unset] [])) rfl (hb hby at_43) (by decide) (by decide)
 obtain ⟨b6, g6⟩ : ∃ z, z = h4.size := ⟨_, rfl⟩
 rw [← g6] at A6 D6 st6
 have ge_b6 : h4.size ≤ b6 := Nat.le_of_eq g6.symm
 have K6 := KL.ofE E6
 have Ck3 := own_chK K6 na0 Ah3.1
 have Ah4 := Ah3.trans Ck3.1
 have F_b6_coder : Fd3 Z h6 b6 z0 := D6 (Or.inr (w28 hw)) (ty := .byte) (by decide)
 have F_b6_value : Fd4 Z h6 b6 .null := D6 (Or.inr (w30 hw)) (ty := (.array .byte)) (by decide)
 have f8 := (kArv K6 V4 na0)
 have f9 := (kOld K6 (kOld K4 (kOld K2 (kOld K1 O0 na0) (naG gg3 na0)) (naG gg3 na0)) na0)
 have sz_0_2 := (Nat.le_trans K1.1 K2.1)
 have sz_0_3 := (Nat.le_trans sz_0_2 K4.1)
 have gg10 := Nat.le_trans Z0 (Nat.le_trans sz_0_3 ge_b6)
 have sz_0_4 := (Nat.le_trans sz_0_3 K6.1)
 obtain ⟨_, T7, L7, X7, hQ7, st7⟩ := own_init X6 hx hZ rfl hown (w5 hw) (w6 hw) (w4 hw) (w7 hw) (by decide) (r7__init_ l Z a0 hw [] b6 b1 (own_c0 p2) (p3 &&& (255 : Int32)) k1 cs h6 n0 (Nat.le_trans Z0 sz_0_4) f8 sCS F_b6_coder A6 F_b6_value f9 hcs (own_c0b p2) (own_m255b _) gg10) e6 (W := 1) (by decide) (g := (mkF m 49 #[vi p0, vi p1, vi p2, vi p3, vi 2, vi 3, vr b1, .unset, .unset, .unset, .unset, .unset] [(.ref b1), (.ref b6), (.ref b6)])) rfl hml.symm (argsL := [(.ref b1)]) (rest := [(.ref b6)]) (lenOf pd_8 rfl) rfl rfl (own_wr rfl rfl) (hb hby at_49)
 obtain ⟨b1_6_4_7, k1_6_4_7, rfl, N7q, K7, Q7_0, Q7_1, Q7_2, Q7_3⟩ := hQ7
 have N7 := Fr.app N4 N7q
 have Ck4 := own_chK K7 (naF (Ck3.2 _ (Safe.new ge_b6)) (naF (Ck3.2 _ (Safe.new ge_b6)) na0)) Ah4.1
 have Ah5 := Ah4.trans Ck4.1
 obtain ⟨T12, h12, X12, e12, E12, A12, D12, -, st12⟩ := newO X7 hx hZ hown (w31 hw) (w32 hw) (w33 hw) rfl (g := (mkF m 54 #[vi p0, vi p1, vi p2, vi p3, vi 2, vi 3, vr b1, vr b6, .unset, .unset, .unset, .unset] [])) rfl (hb hby at_54) (by decide) (by decide)
 obtain ⟨b12, g12⟩ : ∃ z, z = T7.heap.size := ⟨_, rfl⟩
 rw [← g12] at A12 D12 st12
 have ge_b12 : T7.heap.size ≤ b12 := Nat.le_of_eq g12.symm
 have K12 := KL.ofE E12
 have Ck5 := own_chK K12 na0 Ah5.1
 have Ah6 := Ah5.trans Ck5.1
 have F_b12_singleton : Fd5 Z h12 b12 z0 := D12 (Or.inl (w39 hw)) (ty := .boolean) (by decide)
 have F_b12_initMethodRequired : Fd6 Z h12 b12 z0 := D12 (Or.inl (w41 hw)) (ty := .boolean) (by decide)
 have F_b12_destroyMethodRequired : Fd7 Z h12 b12 z0 := D12 (Or.inl (w43 hw)) (ty := .boolean) (by decide)
 have F_b12_dependsOn : Fd8 Z h12 b12 .null := D12 (Or.inr (w69 hw)) (ty := (.object "java/util/List")) (by decide)
 have F_b12_autowireCandidate : Fd9 Z h12 b12 z0 := D12 (Or.inl (w71 hw)) (ty := .boolean) (by decide)
 have F_b12_autowireMode : Fd10 Z h12 b12 .null := D12 (Or.inl (w76 hw)) (ty := (.object "com/example/graft_container/graftcontainer/BeanDefinition$Autowire")) (by decide)
 have F_b12_qualifiers : Fd11 Z h12 b12 .null := D12 (Or.inr (w104 hw)) (ty := (.object "java/util/Map")) (by decide)
 have F_b12_propertyValues : Fd12 Z h12 b12 .null := D12 (Or.inr (w106 hw)) (ty := (.object "java/util/List")) (by decide)
 have F_b12_constructorArguments : Fd13 Z h12 b12 .null := D12 (Or.inr (w108 hw)) (ty := (.object "java/util/List")) (by decide)
 have F_b12_dependsOnView : Fd14 Z h12 b12 .null := D12 (Or.inr (w153 hw)) (ty := (.object "java/util/List")) (by decide)
 have F_b12_qualifiersView : Fd15 Z h12 b12 .null := D12 (Or.inr (w174 hw)) (ty := (.object "java/util/Map")) (by decide)
 have F_b12_propertyValuesView : Fd16 Z h12 b12 .null := D12 (Or.inr (w176 hw)) (ty := (.object "java/util/List")) (by decide)
 have F_b12_constructorArgumentsView : Fd17 Z h12 b12 .null := D12 (Or.inr (w178 hw)) (ty := (.object "java/util/List")) (by decide)
 have F_b12_changeListeners : Fd18 Z h12 b12 .null := D12 (Or.inl (w186 hw)) (ty := (.object "java/util/List")) (by decide)
 have F_b12_outers : Fd19 Z h12 b12 .null := D12 (Or.inl (w188 hw)) (ty := (.object "java/util/List")) (by decide)
 have F_b12_frozen : Fd20 Z h12 b12 z0 := D12 (Or.inl (w203 hw)) (ty := .boolean) (by decide)
 have F_b12_parentName : Fd21 Z h12 b12 .null := D12 (Or.inl (w310 hw)) (ty := (.object "java/lang/String")) (by decide)
 have F_b12_scope : Fd22 Z h12 b12 .null := D12 (Or.inl (w322 hw)) (ty := (.object "java/lang/String")) (by decide)
 have sz_0_5 := (Nat.le_trans sz_0_4 K7.1)
 have gg14 := Nat.le_trans Z0 (Nat.le_trans sz_0_5 ge_b12)
 have f15 := (kOld K12 (kOld K7 f9 (naG gg10 (naG gg10 na0))) na0)
 have sz_0_6 := (Nat.le_trans sz_0_5 K12.1)
 obtain ⟨_, T13, L13, X13, hQ13, st13⟩ := own_init X12 hx hZ rfl hown (w34 hw) (w35 hw) (w33 hw) (w36 hw) (by decide) (r12__init_ l Z a0 hw [] b12 st_DC st_NO m_AL m_UL m_UR m_LM m_UM st_EL h12 n0 (Nat.le_trans Z0 sz_0_6) F_b12_singleton A12 gg14 F_b12_initMethodRequired F_b12_destroyMethodRequired S_DEFAULTCAPACITY_EMPTY_ELEMENTDATA f15 F_b12_dependsOn F_b12_autowireCandidate S_NO F_b12_autowireMode F_b12_qualifiers F_b12_propertyValues F_b12_constructorArguments M_java_util_ArrayList M_java_util_Collections_UnmodifiableList M_java_util_Collections_UnmodifiableRandomAccessList F_b12_dependsOnView M_java_util_LinkedHashMap M_java_util_Collections_UnmodifiableMap F_b12_qualifiersView F_b12_propertyValuesView F_b12_constructorArgumentsView S_EMPTY_LIST F_b12_changeListeners F_b12_outers) e12 (W := 1) (by decide) (g := (mkF m 58 #[vi p0, vi p1, vi p2, vi p3, vi 2, vi 3, vr b1, vr b6, .unset, .unset, .unset, .unset] [(.ref b12), (.ref b12)])) rfl hml.symm (argsL := []) (rest := [(.ref b12)]) (lenOf pd_9 rfl) rfl rfl (own_wr rfl rfl) (hb hby at_58)
 obtain ⟨b9_13, b27_13, b34_13, b42_13, r_55_13, r_64_13, r_71_13, r_78_13, rfl, N13q, K13, Q13_0, Q13_1, Q13_2, Q13_3, Q13_4, Q13_5, Q13_6, Q13_7, Q13_8, Q13_9, Q13_10, Q13_11, Q13_12, Q13_13, Q13_14, Q13_15, Q13_16, Q13_17, Q13_18, Q13_19, Q13_20, Q13_21, Q13_22⟩ := hQ13
 have N13 := Fr.app N7 N13q
 have Ck6 := own_chK K13 (naFM 15 rfl (Safe.exa hZ.alike A12 (by decide) (by decide)) na0) Ah6.1
 have Ah7 := Ah6.trans Ck6.1
 have sz_0_7 := (Nat.le_trans sz_0_6 K13.1)
 obtain ⟨c16, T16, h16, k16, b16, kb16, X16, e16, E16, hS16, hk16, hZ16, hown16, Ex16, Fc16, Fv16, Ar16, lta16, ltb16, hC16, Lt16, hne16, st16⟩ := ldcCH X13 hx hZ hown (w336 hw) (own_wS hw) rfl hS0 (Nat.le_trans hk0 sz_0_7) (own_EW hw) (by decide) Ah7.1 (vs := [(.int 112), (.int 114), (.int 111), (.int 116), (.int 111), (.int 116), (.int 121), (.int 112), (.int 101)]) (z := 9) ⟨by decide, rfl⟩ (by decide) rfl (g := (mkF m 118 #[vi p0, vi p1, vi p2, vi p3, vi 2, vi 3, vr b1, vr b6, vr b12, .unset, .unset, .unset] [(.ref b12)])) rfl (hb hby at_118) (n := 36) (by decide) (by decide) (by decide) (by decide)
 have K16 := KL.ofE E16
 have Ah8 := Ah7.trans hC16
 have f18 := (kExa K16 (kExa K13 A12))
 have f19 := (kFld K16 (kFld K13 F_b12_frozen (nwf_2 hw b12)) nw0)
 have f20 := (kFld K16 Q13_22 nw0)
 have f21 := (kExa K16 (kExa K13 (kExa K12 (kExa K7 (kExa K6 (kExa K4 (kExa K2 (kExa K1 E_st_EL))))))))
 have lt_st_EL : st_EL < h0.size := Exa.lt E_st_EL
 have ne22 := lt_ne lt_st_EL ge_b1
 have ne23 := lt_ne (Nat.lt_of_lt_of_le lt_st_EL sz_0_3) ge_b6
 have ne24 := lt_ne (Nat.lt_of_lt_of_le lt_st_EL sz_0_5) ge_b12
 have f25 := (kFld K16 (kFld K13 (kFld K12 (kFld K7 (kFld K6 (kFld K4 (kFld K2 (kFld K1 F_st_EL_elements nw0) (nwL ne22 nw0)) (nwL ne22 nw0)) nw0) (nwL ne23 (nwL ne23 nw0))) nw0) (nwM 15 rfl ne24 nw0)) nw0)
 have lt_el_EL : el_EL < h0.size := Arv.lt V_el_EL
 have ne26 := lt_ne lt_el_EL ge_b1
 have ne27 := lt_ne (Nat.lt_of_lt_of_le lt_el_EL sz_0_3) ge_b6
 have ne28 := lt_ne (Nat.lt_of_lt_of_le lt_el_EL sz_0_5) ge_b12
 have f29 := (kArv K16 (kArv K13 (kArv K12 (kArv K7 (kArv K6 (kArv K4 (kArv K2 (kArv K1 V_el_EL na0) (naN (Ne.symm ne26) na0)) (naN (Ne.symm ne26) na0)) na0) (naN (Ne.symm ne27) (naN (Ne.symm ne27) na0))) na0) (naNM 15 rfl (Ne.symm ne28) na0)) na0)
 have f30 := (kFld K16 Q13_21 nw0)
 have f31 := (kOld K16 (kOld K13 f15 (naGM 15 rfl gg14 na0)) na0)
 have f32 := (kFld K16 (kFld K13 F_b12_scope (nwf_0 hw b12)) nw0)
 have f33 := (kFld K16 Q13_8 nw0)
 have sz_0_8 := (Nat.le_trans sz_0_7 K16.1)
 obtain ⟨_, T17, L17, X17, hS17, hk17, hZ17, hown17, hQ17, hC17, st17⟩ := own_Hvirtual X16 hx hZ16 hown16 (w330 hw) (w331 hw) (nfS hZ16 (w333 hw)) (w333 hw) (w332 hw) (w33 hw) (w334 hw) (by decide) (r50_setScope l Z a0 hw [] b12 c16 st_EL el_EL k_el_EL cs b16 kb16 h16 n0 (Nat.le_trans Z0 sz_0_8) f18 f19 f20 f21 f25 f29 f30 Ex16 sCS Fc16 Fv16 Ar16 f31 hcs f32 gg14 f33) e16 f18 (W := 0) (by decide) (g := (mkF m 120 #[vi p0, vi p1, vi p2, vi p3, vi 2, vi 3, vr b1, vr b6, vr b12, .unset, .unset, .unset] [(.ref c16), (.ref b12)])) rfl hml.symm (argsL := [(.ref c16)]) (rest := []) (lenOf pd_25 rfl) rfl rfl (own_wr rfl rfl) (hb hby at_120) hS16 hk16 (own_EW hw) Ah8.1 sf0
 obtain ⟨c27_17, b27_17, kb27_17, rfl, N17q, K17, Q17_0, Q17_1, Q17_2, Q17_3, Q17_4, Q17_5, Q17_6, Q17_7⟩ := hQ17
 have N17 := Fr.app N13 N17q
 have Ah9 := Ah8.trans hC17
 have f35 := (kExa K17 f18)
 have f36 := (kFld K17 f19 (nwR (sn_285 hw) (nwR (sn_280 hw) nw0)))
 have f37 := (kFld K17 f20 (nwR (sn_286 hw) (nwR (sn_117 hw) nw0)))
 have f38 := (kExa K17 f21)
 have f39 := (kFld K17 f25 (nwL ne24 (nwL ne24 nw0)))
 have f40 := (kArv K17 f29 (naN (Ne.symm ne28) (naN (Ne.symm ne28) na0)))
 have f41 := (kFld K17 f30 (nwR (sn_287 hw) (nwR (sn_104 hw) nw0)))
 have f42 := (kExa K17 (kExa K16 (kExa K13 (kExa K12 (kExa K7 A6)))))
 have lt_b6 : b6 < h6.size := Exa.lt A6
 have ne43 := lt_ne (Nat.lt_of_lt_of_le lt_b6 K7.1) ge_b12
 have f44 := (kFld K17 (kFld K16 (kFld K13 (kFld K12 Q7_1 nw0) (nwM 15 rfl ne43 nw0)) nw0) (nwL ne43 (nwL ne43 nw0)))
 have f45 := (kFld K17 (kFld K16 (kFld K13 (kFld K12 Q7_2 nw0) (nwM 15 rfl ne43 nw0)) nw0) (nwL ne43 (nwL ne43 nw0)))
 have lt_b1_6_4_7 : b1_6_4_7 < T7.heap.size := Arv.lt Q7_3
 have ne46 := lt_ne lt_b1_6_4_7 ge_b12
 have f47 := (kArv K17 (kArv K16 (kArv K13 (kArv K12 Q7_3 na0) (naNM 15 rfl (Ne.symm ne46) na0)) na0) (naN (Ne.symm ne46) (naN (Ne.symm ne46) na0)))
 have f48 := (kExa K17 (kExa K16 (kExa K13 (kExa K12 (kExa K7 (kExa K6 (kExa K4 (kExa K2 (kExa K1 E_st_CD)))))))))
 have lt_st_A : st_A < h0.size := Arv.lt V_st_A
 have ne49 := lt_ne lt_st_A ge_b1
 have ne50 := lt_ne (Nat.lt_of_lt_of_le lt_st_A sz_0_3) ge_b6
 have ne51 := lt_ne (Nat.lt_of_lt_of_le lt_st_A sz_0_5) ge_b12
 have f52 := (kArv K17 (kArv K16 (kArv K13 (kArv K12 (kArv K7 (kArv K6 (kArv K4 (kArv K2 (kArv K1 V_st_A na0) (naN (Ne.symm ne49) na0)) (naN (Ne.symm ne49) na0)) na0) (naN (Ne.symm ne50) (naN (Ne.symm ne50) na0))) na0) (naNM 15 rfl (Ne.symm ne51) na0)) na0) (naN (Ne.symm ne51) (naN (Ne.symm ne51) na0)))
 have f53 := (kOld K17 f31 (naG gg14 (naG gg14 na0)))
 have f54 := (kFld K17 (kFld K16 (kFld K13 F_b12_parentName (nwf_1 hw b12)) nw0) (nwR (sn_288 hw) (nwR (sn_251 hw) nw0)))
 have sz_0_9 := (Nat.le_trans sz_0_8 K17.1)
 obtain ⟨_, T34, L34, X34, hS34, hk34, hZ34, hown34, hQ34, hC34, st34⟩ := own_Hvirtual X17 hx hZ17 hown17 (w189 hw) (w190 hw) (nfS hZ17 (w192 hw)) (w192 hw) (w191 hw) (w33 hw) (w193 hw) (by decide) (r55_setParentName l Z a0 hw [] b12 b6 st_EL el_EL k_el_EL cs b1_6_4_7 ((own_c0 p2).toInt8.toInt32) ((p3 &&& (255 : Int32)).toInt8.toInt32) k1_6_4_7 st_CD st_A tA k_st_A c27_17 b27_17 kb27_17 T17.heap n0 (Nat.le_trans Z0 sz_0_9) f35 f36 f37 f38 f39 f40 f41 f42 sCS f44 f45 f47 S_instance f48 S_A f52 f53 hcs (own_nsp p2 (by decide)) (own_nsp p2 (by decide)) (own_nws p2 hA) f54 gg14 Q17_2 Q17_4 Q17_5 Q17_6 Q17_7 (Ne.symm (own_arex Q17_7 f35 (w32 hw))) Q17_3) rfl f35 (W := 0) (by decide) (g := (mkF m 133 #[vi p0, vi p1, vi p2, vi p3, vi 2, vi 3, vr b1, vr b6, vr b12, .unset, .unset, .unset] [(.ref b6), (.ref b12)])) rfl hml.symm (argsL := [(.ref b6)]) (rest := []) (lenOf pd_25 rfl) rfl rfl (own_wr rfl rfl) (hb hby at_133) hS17 hk17 (own_EW hw) Ah9.1 sf0
 obtain ⟨rfl, N34q, K34, Q34_0, Q34_1⟩ := hQ34
 have N34 := Fr.app N17 N34q
 have Ah10 := Ah9.trans hC34
 have f56 := (kFld K34 Q17_2 (nwR (sn_264 hw) (nwR (sn_236 hw) nw0)))
 have sz_0_10 := (Nat.le_trans sz_0_9 K34.1)
 have f57 := (kExa K34 f35)
 obtain ⟨_, T55, L55, X55, hQ55, st55⟩ := own_virtual X34 hx hZ34 hown34 (w328 hw) (w317 hw) (nfS hZ34 (w319 hw)) (w319 hw) (w318 hw) (w33 hw) (w320 hw) (by decide) (r47_getScope l Z a0 hw [] b12 c27_17 T34.heap n0 (Nat.le_trans Z0 sz_0_10) f56) rfl f57 (W := 0) (by decide) (g := (mkF m 157 #[vi p0, vi p1, vi p2, vi p3, vi 2, vi 3, vr b1, vr b6, vr b12, vi 1, .unset, .unset] [(.ref b12)])) rfl hml.symm (argsL := []) (rest := []) (lenOf pd_13 rfl) rfl rfl (own_wr rfl rfl) (hb hby at_157)
 obtain ⟨rfl, N55q, e55⟩ := hQ55
 have N55 := Fr.app N34 N55q
 obtain ⟨c58, T58, h58, k58, b58, kb58, X58, e58, E58, hS58, hk58, hZ58, hown58, Ex58, Fc58, Fv58, Ar58, lta58, ltb58, hC58, Lt58, hne58, st58⟩ := ldcCH X55 hx hZ34 hown34 (w336 hw) (own_wS hw) e55 hS34 hk34 (own_EW hw) (by decide) Ah10.1 (vs := [(.int 112), (.int 114), (.int 111), (.int 116), (.int 111), (.int 116), (.int 121), (.int 112), (.int 101)]) (z := 9) ⟨by decide, rfl⟩ (by decide) rfl (g := (mkF m 181 #[vi p0, vi p1, vi p2, vi p3, vi 2, vi 3, vr b1, vr b6, vr b12, vi 1, vr c27_17, .unset] [])) rfl (hb hby at_181) (n := 36) (by decide) (by decide) (by decide) (by decide)
 have K58 := KL.ofE E58
 have Ah11 := Ah10.trans hC58
 have f60 := (kExa K58 (kExa K34 Q17_4))
 have f61 := (kOld K58 (kOld K34 f53 (naG gg14 (naG gg14 na0))) na0)
 have f62 := (kFld K58 (kFld K34 Q17_5 (nwL (ne_exa Q17_4 f35 (by decide)) (nwL (ne_exa Q17_4 f35 (by decide)) nw0))) nw0)
 have f63 := (kFld K58 (kFld K34 Q17_6 (nwL (ne_exa Q17_4 f35 (by decide)) (nwL (ne_exa Q17_4 f35 (by decide)) nw0))) nw0)
 have f64 := (kArv K58 (kArv K34 Q17_7 (naN (Ne.symm (own_arex Q17_7 f35 (w32 hw))) (naN (Ne.symm (own_arex Q17_7 f35 (w32 hw))) na0))) na0)
 have sz_0_11 := (Nat.le_trans sz_0_10 K58.1)
 obtain ⟨_, T59, L59, X59, hQ59, st59⟩ := own_virtual X58 hx hZ58 hown58 (w335 hw) (w324 hw) (nfS hZ58 (w326 hw)) (w326 hw) (w325 hw) (w4 hw) (w327 hw) (by decide) (r_eqp l Z a0 hw [] c58 c27_17 b58 b27_17 cs kb58 kb27_17 h58 n0 (Nat.le_trans Z0 sz_0_11) hcs f60 sCS f61 Fc58 f62 Fv58 f63 Ar58 f64) e58 Ex58 (W := 0) (by decide) (g := (mkF m 228 #[vi p0, vi p1, vi p2, vi p3, vi 2, vi 3, vr b1, vr b6, vr b12, vi 1, vr c27_17, vr c58] [(.ref c27_17), (.ref c58)])) rfl hml.symm (argsL := [(.ref c27_17)]) (rest := []) (lenOf pd_14 rfl) rfl rfl (own_wr rfl rfl) (hb hby at_228)
 obtain ⟨rfl, N59q, e59⟩ := hQ59
 have N59 := Fr.app N55 N59q
 refine ⟨T59, _, some (.int 1), _, _, X59, hS58, (by rw [e59]; exact hk58), (fun h => by cases h <;> rfl), ?_, (by rw [e59]; exact Ah11), hZ58, fun fs hr => ?_⟩
 · show Q_law n0 _ _
   exact ⟨rfl, N59⟩
 refine t_iloadN 1 X0.here hx hby at_0 rfl rfl ?_
 refine X0.ldcInt hx hown (mvT hZ (w0 hw)) (g := (mkF m 1 #[vi p0, vi p1, vi p2, vi p3, .unset, .unset, .unset, .unset, .unset, .unset, .unset, .unset] [(.int p0)])) rfl (hb hby at_1) _ ?_
 refine t_iand 4 X0.here hx hby at_3 rfl rfl ?_
 refine t_iconst 5 (r := 3) X0.here hx hby at_4 (by decide) rfl ?_
 refine t_irem 6 (r := 2) X0.here hx hby at_5 (by decide) hs rfl ?_
 refine t_istore (pc' := 8) (L' := #[vi p0, vi p1, vi p2, vi p3, vi 2, .unset, .unset, .unset, .unset, .unset, .unset, .unset]) X0.here hx hby at_6 rfl rfl ?_
 refine t_iloadN 9 X0.here hx hby at_8 rfl rfl ?_
 refine t_iconst 10 (r := 3) X0.here hx hby at_9 (by decide) rfl ?_
 refine t_iand 11 (r := 3) X0.here hx hby at_10 hpm rfl ?_
 refine t_istore (pc' := 13) (L' := #[vi p0, vi p1, vi p2, vi p3, vi 2, vi 3, .unset, .unset, .unset, .unset, .unset, .unset]) X0.here hx hby at_11 rfl rfl ?_
 refine t_iconst 14 (r := 2) X0.here hx hby at_13 (by decide) rfl ?_
 refine st1 _ ?_
 refine t_astore (pc' := 18) (L' := #[vi p0, vi p1, vi p2, vi p3, vi 2, vi 3, vr b1, .unset, .unset, .unset, .unset, .unset]) X1.here hx hby at_16 rfl rfl rfl ?_
 refine t_aload 20 X1.here hx hby at_18 rfl rfl rfl ?_
 refine t_iconst 21 (r := 0) X1.here hx hby at_20 (by decide) rfl ?_
 refine t_bipush 23 (r := 33) X1.here hx hby at_21 (by decide) rfl ?_
 refine t_iloadN 24 X1.here hx hby at_23 rfl rfl ?_
 refine X1.ldcInt hx hown (mvT hZ (w0 hw)) (g := (mkF m 24 #[vi p0, vi p1, vi p2, vi p3, vi 2, vi 3, vr b1, .unset, .unset, .unset, .unset, .unset] [(.int p2), (.int 33), z0, (.ref b1)])) rfl (hb hby at_24) _ ?_
 refine t_iand 27 X1.here hx hby at_26 rfl rfl ?_
 refine t_bipush 29 (r := 94) X1.here hx hby at_27 (by decide) rfl ?_
 refine t_irem 30 X1.here hx hby at_29 (by decide) rfl rfl ?_
 refine t_iadd 31 (r := (own_c0 p2)) X1.here hx hby at_30 (Eq.refl (own_c0 p2)) rfl ?_
 refine t_i2c 32 (r := (own_c0 p2)) X1.here hx hby at_31 (own_c2c (own_c0a p2) (own_c0b p2)) rfl ?_
 refine st2 _ ?_
 refine t_aload 35 X2.here hx hby at_33 rfl rfl rfl ?_
 refine t_iconst 36 (r := 1) X2.here hx hby at_35 (by decide) rfl ?_
 refine t_iloadN 37 X2.here hx hby at_36 rfl rfl ?_
 refine t_sipush 40 (r := 255) X2.here hx hby at_37 (by decide) rfl ?_
 refine t_iand 41 X2.here hx hby at_40 rfl rfl ?_
 refine t_i2c 42 (r := (p3 &&& (255 : Int32))) X2.here hx hby at_41 (i2c_mask _) rfl ?_
 refine st4 _ ?_
 refine st6 _ ?_
 refine t_dup 47 X6.here hx hby at_46 rfl rfl ?_
 refine t_aload 49 X6.here hx hby at_47 rfl rfl rfl ?_
 refine st7 _ ?_
 refine t_astore (pc' := 54) (L' := #[vi p0, vi p1, vi p2, vi p3, vi 2, vi 3, vr b1, vr b6, .unset, .unset, .unset, .unset]) X7.here hx hby at_52 rfl rfl rfl ?_
 refine st12 _ ?_
 refine t_dup 58 X12.here hx hby at_57 rfl rfl ?_
 refine st13 _ ?_
 refine t_astore (pc' := 63) (L' := #[vi p0, vi p1, vi p2, vi p3, vi 2, vi 3, vr b1, vr b6, vr b12, .unset, .unset, .unset]) X13.here hx hby at_61 rfl rfl rfl ?_
 refine t_iload 65 X13.here hx hby at_63 rfl rfl ?_
 refine t_iconst 66 (r := 1) X13.here hx hby at_65 (by decide) rfl ?_
 refine t_icmpNo 69 X13.here hx hby at_66 (by decide) rfl ?_
 refine t_iload 71 X13.here hx hby at_69 rfl rfl ?_
 refine t_iconst 72 (r := 2) X13.here hx hby at_71 (by decide) rfl ?_
 refine t_icmpYes (pc := 72) 82 X13.here hx hby at_72 (by decide) (by decide) (by decide) ?_
 refine t_iload 84 X13.here hx hby at_82 rfl rfl ?_
 refine t_iconst 85 (r := 2) X13.here hx hby at_84 (by decide) rfl ?_
 refine t_icmpYes (pc := 85) 94 X13.here hx hby at_85 (by decide) (by decide) (by decide) ?_
 refine t_iload 96 X13.here hx hby at_94 rfl rfl ?_
 refine t_iconst 97 (r := 1) X13.here hx hby at_96 (by decide) rfl ?_
 refine t_icmpYes (pc := 97) 110 X13.here hx hby at_97 (by decide) (by decide) (by decide) ?_
 refine t_iload 112 X13.here hx hby at_110 rfl rfl ?_
 refine t_iconst 113 (r := 2) X13.here hx hby at_112 (by decide) rfl ?_
 refine t_icmpNo 116 X13.here hx hby at_113 (by decide) rfl ?_
 refine t_aload 118 X13.here hx hby at_116 rfl rfl rfl ?_
 refine st16 _ ?_
 refine st17 _ ?_
 refine t_iload 125 X17.here hx hby at_123 rfl rfl ?_
 refine t_iconst 126 (r := 3) X17.here hx hby at_125 (by decide) rfl ?_
 refine t_icmpNo 129 X17.here hx hby at_126 (by decide) rfl ?_
 refine t_aload 131 X17.here hx hby at_129 rfl rfl rfl ?_
 refine t_aload 133 X17.here hx hby at_131 rfl rfl rfl ?_
 refine st34 _ ?_
 refine t_iload 138 X34.here hx hby at_136 rfl rfl ?_
 refine t_iconst 139 (r := 1) X34.here hx hby at_138 (by decide) rfl ?_
 refine t_icmpNo 142 X34.here hx hby at_139 (by decide) rfl ?_
 refine t_iload 144 X34.here hx hby at_142 rfl rfl ?_
 refine t_iconst 145 (r := 3) X34.here hx hby at_144 (by decide) rfl ?_
 refine t_icmpNo 148 X34.here hx hby at_145 (by decide) rfl ?_
 refine t_iconst 149 (r := 1) X34.here hx hby at_148 (by decide) rfl ?_
 refine t_goto (pc := 149) 153 X34.here hx hby at_149 (by decide) (by decide) ?_
 refine t_istore (pc' := 155) (L' := #[vi p0, vi p1, vi p2, vi p3, vi 2, vi 3, vr b1, vr b6, vr b12, vi 1, .unset, .unset]) X34.here hx hby at_153 rfl rfl ?_
 refine t_aload 157 X34.here hx hby at_155 rfl rfl rfl ?_
 refine st55 _ ?_
 refine t_astore (pc' := 162) (L' := #[vi p0, vi p1, vi p2, vi p3, vi 2, vi 3, vr b1, vr b6, vr b12, vi 1, vr c27_17, .unset]) X55.here hx hby at_160 rfl rfl rfl ?_
 refine t_iload 164 X55.here hx hby at_162 rfl rfl ?_
 refine t_iconst 165 (r := 1) X55.here hx hby at_164 (by decide) rfl ?_
 refine t_icmpYes (pc := 165) 175 X55.here hx hby at_165 (by decide) (by decide) (by decide) ?_
 refine t_iload 177 X55.here hx hby at_175 rfl rfl ?_
 refine t_iconst 178 (r := 2) X55.here hx hby at_177 (by decide) rfl ?_
 refine t_icmpNo 181 X55.here hx hby at_178 (by decide) rfl ?_
 refine st58 _ ?_
 refine t_astore (pc' := 185) (L' := #[vi p0, vi p1, vi p2, vi p3, vi 2, vi 3, vr b1, vr b6, vr b12, vi 1, vr c27_17, vr c58]) X58.here hx hby at_183 rfl rfl rfl ?_
 refine t_goto (pc := 185) 203 X58.here hx hby at_185 (by decide) (by decide) ?_
 refine t_aload 205 X58.here hx hby at_203 rfl rfl rfl ?_
 refine t_ifnonnullYes (pc := 205) 219 X58.here hx hby at_205 (by decide) (by decide) ?_
 refine t_aload 221 X58.here hx hby at_219 rfl rfl rfl ?_
 refine t_ifnullNo 224 X58.here hx hby at_221 rfl ?_
 refine t_aload 226 X58.here hx hby at_224 rfl rfl rfl ?_
 refine t_aload 228 X58.here hx hby at_226 rfl rfl rfl ?_
 refine st59 _ ?_
 refine t_ifNo 234 X59.here hx hby at_231 (by decide) rfl ?_
 refine t_iconst 235 (r := 1) X59.here hx hby at_234 (by decide) rfl ?_
 refine t_goto (pc := 235) 239 X59.here hx hby at_235 (by decide) (by decide) ?_
 exact retN X59 hx (t := .boolean) hret (by simp) (hb hby at_239) hr
def w73 (hw : HW Z a0) := ow 73 hw rfl
def w74 (hw : HW Z a0) := ow 74 hw rfl
theorem own_tr {s : State} {args : Array Value} {a : Addr} {cl : Cell} (hsets : ∀ d ∈ jdkStatics_1, d.before args s = true) (ev : (Jvm.Term.static "java/lang/CharacterDataLatin1" "A" "[I").eval args s none [] s = some (.ref a)) (hc : s.heap[a]? = some cl) (i : Nat) (v k : Int32) (q : jdkStatics_1[i]? = some (Jvm.Cond.eq (Jvm.Term.elem (Jvm.Term.static "java/lang/CharacterDataLatin1" "A" "[I") (Jvm.Term.int k)) (Jvm.Term.int v))) (hv : ¬ ((v &&& (28672 : Int32)) = (16384 : Int32))) : ∃ v : Int32, cl.slots.toList.getD k.toNatClampNeg z0 = .int v ∧ ¬ ((v &&& (28672 : Int32)) = (16384 : Int32)) :=
  ⟨v, own_tget ((elem_in (eqv_i (Term.int_eval v) (Cond.before_iff.mp (hsets _ (List.mem_of_getElem? q)))) ev (Term.int_eval k) hc).2), hv⟩
theorem own_tab {s : State} {args : Array Value} {a : Addr} {cl : Cell} (hsets : ∀ d ∈ jdkStatics_1, d.before args s = true) (ev : (Jvm.Term.static "java/lang/CharacterDataLatin1" "A" "[I").eval args s none [] s = some (.ref a)) (hc : s.heap[a]? = some cl) : TabA cl.slots.toList := by
  have key : ∀ n : Nat, n < 94 → ∃ v : Int32, cl.slots.toList.getD (33 + n) z0 = .int v ∧ ¬ ((v &&& (28672 : Int32)) = (16384 : Int32)) := fun n hn => match n, hn with
    | 0, _ => own_tr hsets ev hc 66 (1744830488) 33 rfl (by decide)
    | 1, _ => own_tr hsets ev hc 67 (1744830488) 34 rfl (by decide)
    | 2, _ => own_tr hsets ev hc 68 (671088664) 35 rfl (by decide)
    | 3, _ => own_tr hsets ev hc 69 (671113242) 36 rfl (by decide)
    | 4, _ => own_tr hsets ev hc 70 (671088664) 37 rfl (by decide)
    | 5, _ => own_tr hsets ev hc 71 (1744830488) 38 rfl (by decide)
    | 6, _ => own_tr hsets ev hc 72 (1744830488) 39 rfl (by decide)
    | 7, _ => own_tr hsets ev hc 73 (-402653163) 40 rfl (by decide)
    | 8, _ => own_tr hsets ev hc 74 (-402653162) 41 rfl (by decide)
    | 9, _ => own_tr hsets ev hc 75 (1744830488) 42 rfl (by decide)
    | 10, _ => own_tr hsets ev hc 76 (536870937) 43 rfl (by decide)
    | 11, _ => own_tr hsets ev hc 77 (939524120) 44 rfl (by decide)
    | 12, _ => own_tr hsets ev hc 78 (536870932) 45 rfl (by decide)
    | 13, _ => own_tr hsets ev hc 79 (939524120) 46 rfl (by decide)
    | 14, _ => own_tr hsets ev hc 80 (939524120) 47 rfl (by decide)
    | 15, _ => own_tr hsets ev hc 81 (402667017) 48 rfl (by decide)
    | 16, _ => own_tr hsets ev hc 82 (402667017) 49 rfl (by decide)
    | 17, _ => own_tr hsets ev hc 83 (402667017) 50 rfl (by decide)
    | 18, _ => own_tr hsets ev hc 84 (402667017) 51 rfl (by decide)
    | 19, _ => own_tr hsets ev hc 85 (402667017) 52 rfl (by decide)
    | 20, _ => own_tr hsets ev hc 86 (402667017) 53 rfl (by decide)
    | 21, _ => own_tr hsets ev hc 87 (402667017) 54 rfl (by decide)
    | 22, _ => own_tr hsets ev hc 88 (402667017) 55 rfl (by decide)
    | 23, _ => own_tr hsets ev hc 89 (402667017) 56 rfl (by decide)
    | 24, _ => own_tr hsets ev hc 90 (402667017) 57 rfl (by decide)
    | 25, _ => own_tr hsets ev hc 91 (939524120) 58 rfl (by decide)
    | 26, _ => own_tr hsets ev hc 92 (1744830488) 59 rfl (by decide)
    | 27, _ => own_tr hsets ev hc 93 (-402653159) 60 rfl (by decide)
    | 28, _ => own_tr hsets ev hc 94 (1744830489) 61 rfl (by decide)
    | 29, _ => own_tr hsets ev hc 95 (-402653159) 62 rfl (by decide)
    | 30, _ => own_tr hsets ev hc 96 (1744830488) 63 rfl (by decide)
    | 31, _ => own_tr hsets ev hc 97 (1744830488) 64 rfl (by decide)
    | 32, _ => own_tr hsets ev hc 98 (8552417) 65 rfl (by decide)
    | 33, _ => own_tr hsets ev hc 99 (8552417) 66 rfl (by decide)
    | 34, _ => own_tr hsets ev hc 100 (8552417) 67 rfl (by decide)
    | 35, _ => own_tr hsets ev hc 101 (8552417) 68 rfl (by decide)
    | 36, _ => own_tr hsets ev hc 102 (8552417) 69 rfl (by decide)
    | 37, _ => own_tr hsets ev hc 103 (8552417) 70 rfl (by decide)
    | 38, _ => own_tr hsets ev hc 104 (8552417) 71 rfl (by decide)
    | 39, _ => own_tr hsets ev hc 105 (8552417) 72 rfl (by decide)
    | 40, _ => own_tr hsets ev hc 106 (8552417) 73 rfl (by decide)
    | 41, _ => own_tr hsets ev hc 107 (8552417) 74 rfl (by decide)
    | 42, _ => own_tr hsets ev hc 108 (8552417) 75 rfl (by decide)
    | 43, _ => own_tr hsets ev hc 109 (8552417) 76 rfl (by decide)
    | 44, _ => own_tr hsets ev hc 110 (8552417) 77 rfl (by decide)
    | 45, _ => own_tr hsets ev hc 111 (8552417) 78 rfl (by decide)
    | 46, _ => own_tr hsets ev hc 112 (8552417) 79 rfl (by decide)
    | 47, _ => own_tr hsets ev hc 113 (8552417) 80 rfl (by decide)
    | 48, _ => own_tr hsets ev hc 114 (8552417) 81 rfl (by decide)
    | 49, _ => own_tr hsets ev hc 115 (8552417) 82 rfl (by decide)
    | 50, _ => own_tr hsets ev hc 116 (8552417) 83 rfl (by decide)
    | 51, _ => own_tr hsets ev hc 117 (8552417) 84 rfl (by decide)
    | 52, _ => own_tr hsets ev hc 118 (8552417) 85 rfl (by decide)
    | 53, _ => own_tr hsets ev hc 119 (8552417) 86 rfl (by decide)
    | 54, _ => own_tr hsets ev hc 120 (8552417) 87 rfl (by decide)
    | 55, _ => own_tr hsets ev hc 121 (8552417) 88 rfl (by decide)
    | 56, _ => own_tr hsets ev hc 122 (8552417) 89 rfl (by decide)
    | 57, _ => own_tr hsets ev hc 123 (8552417) 90 rfl (by decide)
    | 58, _ => own_tr hsets ev hc 124 (-402653163) 91 rfl (by decide)
    | 59, _ => own_tr hsets ev hc 125 (1744830488) 92 rfl (by decide)
    | 60, _ => own_tr hsets ev hc 126 (-402653162) 93 rfl (by decide)
    | 61, _ => own_tr hsets ev hc 127 (1744830491) 94 rfl (by decide)
    | 62, _ => own_tr hsets ev hc 128 (1744850967) 95 rfl (by decide)
    | 63, _ => own_tr hsets ev hc 129 (1744830491) 96 rfl (by decide)
    | 64, _ => own_tr hsets ev hc 130 (8486882) 97 rfl (by decide)
    | 65, _ => own_tr hsets ev hc 131 (8486882) 98 rfl (by decide)
    | 66, _ => own_tr hsets ev hc 132 (8486882) 99 rfl (by decide)
    | 67, _ => own_tr hsets ev hc 133 (8486882) 100 rfl (by decide)
    | 68, _ => own_tr hsets ev hc 134 (8486882) 101 rfl (by decide)
    | 69, _ => own_tr hsets ev hc 135 (8486882) 102 rfl (by decide)
    | 70, _ => own_tr hsets ev hc 136 (8486882) 103 rfl (by decide)
    | 71, _ => own_tr hsets ev hc 137 (8486882) 104 rfl (by decide)
    | 72, _ => own_tr hsets ev hc 138 (8486882) 105 rfl (by decide)
    | 73, _ => own_tr hsets ev hc 139 (8486882) 106 rfl (by decide)
    | 74, _ => own_tr hsets ev hc 140 (8486882) 107 rfl (by decide)
    | 75, _ => own_tr hsets ev hc 141 (8486882) 108 rfl (by decide)
    | 76, _ => own_tr hsets ev hc 142 (8486882) 109 rfl (by decide)
    | 77, _ => own_tr hsets ev hc 143 (8486882) 110 rfl (by decide)
    | 78, _ => own_tr hsets ev hc 144 (8486882) 111 rfl (by decide)
    | 79, _ => own_tr hsets ev hc 145 (8486882) 112 rfl (by decide)
    | 80, _ => own_tr hsets ev hc 146 (8486882) 113 rfl (by decide)
    | 81, _ => own_tr hsets ev hc 147 (8486882) 114 rfl (by decide)
    | 82, _ => own_tr hsets ev hc 148 (8486882) 115 rfl (by decide)
    | 83, _ => own_tr hsets ev hc 149 (8486882) 116 rfl (by decide)
    | 84, _ => own_tr hsets ev hc 150 (8486882) 117 rfl (by decide)
    | 85, _ => own_tr hsets ev hc 151 (8486882) 118 rfl (by decide)
    | 86, _ => own_tr hsets ev hc 152 (8486882) 119 rfl (by decide)
    | 87, _ => own_tr hsets ev hc 153 (8486882) 120 rfl (by decide)
    | 88, _ => own_tr hsets ev hc 154 (8486882) 121 rfl (by decide)
    | 89, _ => own_tr hsets ev hc 155 (8486882) 122 rfl (by decide)
    | 90, _ => own_tr hsets ev hc 156 (-402653163) 123 rfl (by decide)
    | 91, _ => own_tr hsets ev hc 157 (1744830489) 124 rfl (by decide)
    | 92, _ => own_tr hsets ev hc 158 (-402653162) 125 rfl (by decide)
    | 93, _ => own_tr hsets ev hc 159 (1744830489) 126 rfl (by decide)
    | n + 94, h => absurd h (by omega)
  intro n h1 h2
  have := key (n - 33) (by omega)
  rwa [show 33 + (n - 33) = n by omega] at this
theorem rm_law (l : Launch) (Z : State) (a0 : Array Value) (hw : HW Z a0) (ws : List Jvm.Cond) (p0 p1 p2 p3 : Int32) (h0 : Heap) (n0 : Nat) (Z0 : n0 ≤ h0.size) (cs : Int32) (st_NO st_DC st_EL el_EL st_CD st_A : Addr) (tA : List Value) (m_AL m_UL m_UR m_LM m_UM : Addr) (k_el_EL k_st_A : ClassId) (hcs : ¬ (cs = (0 : Int32))) (hA : TabA tA) (sCS : SCS Z cs) (O0 : Old Z n0 h0) (S_DEFAULTCAPACITY_EMPTY_ELEMENTDATA : Sa0 Z (.ref st_DC)) (S_NO : Sa2 Z (.ref st_NO)) (M_java_util_ArrayList : OMir Z "java/util/ArrayList" m_AL) (M_java_util_Collections_UnmodifiableList : OMir Z "java/util/Collections$UnmodifiableList" m_UL) (M_java_util_Collections_UnmodifiableRandomAccessList : OMir Z "java/util/Collections$UnmodifiableRandomAccessList" m_UR) (M_java_util_LinkedHashMap : OMir Z "java/util/LinkedHashMap" m_LM) (M_java_util_Collections_UnmodifiableMap : OMir Z "java/util/Collections$UnmodifiableMap" m_UM) (S_EMPTY_LIST : Sa1 Z (.ref st_EL)) (E_st_EL : Ex6 Z h0 st_EL) (F_st_EL_elements : Fd28 Z h0 st_EL (.ref el_EL)) (V_el_EL : Arv Z h0 el_EL k_el_EL (.object "java/lang/Object") (0 : Int32) [] .null) (S_instance : Sa4 Z (.ref st_CD)) (E_st_CD : Ex8 Z h0 st_CD) (S_A : Sa3 Z (.ref st_A)) (V_st_A : Arv Z h0 st_A k_st_A .int 256 tA z0) :
    MetFree l x (head1 (Jvm.Cond.code x code maxLocals ret :: ws) room_1) (fun a U => a = #[(.int p0), (.int p1), (.int p2), (.int p3)] ∧ Z.Warmed39 U.vm ∧ U.heap = h0 ∧ CHv Z consts_1 U.vm h0 ∧ ∀ x ∈ ([] : List Addr), Safe Z consts_1 U.vm h0 x) (fun _ _ _ _ _ => True) (fun _ U o U' => ∃ v L, o = .returned v ∧ Q_law n0 v L ∧ CHr Z consts_1 U.vm U.heap U'.vm U'.heap ∧ ReturnedEndW U o U' L 56 5440) := by
  rcases own_rem3 p0 with hs | hs | hs <;> rcases own_and3 p1 with hpm | hpm | hpm | hpm
  · exact law_00 l Z a0 hw ws p0 p1 p2 p3 cs st_NO st_DC st_EL el_EL st_CD st_A tA m_AL m_UL m_UR m_LM m_UM h0 n0 Z0 hcs hs hpm sCS O0 S_DEFAULTCAPACITY_EMPTY_ELEMENTDATA S_NO M_java_util_ArrayList M_java_util_Collections_UnmodifiableList M_java_util_Collections_UnmodifiableRandomAccessList M_java_util_LinkedHashMap M_java_util_Collections_UnmodifiableMap S_EMPTY_LIST
  · exact law_01 l Z a0 hw ws p0 p1 p2 p3 cs st_NO st_DC st_EL el_EL st_CD st_A tA m_AL m_UL m_UR m_LM m_UM k_el_EL k_st_A h0 n0 Z0 hcs hA hs hpm sCS O0 S_DEFAULTCAPACITY_EMPTY_ELEMENTDATA S_NO M_java_util_ArrayList M_java_util_Collections_UnmodifiableList M_java_util_Collections_UnmodifiableRandomAccessList M_java_util_LinkedHashMap M_java_util_Collections_UnmodifiableMap S_EMPTY_LIST E_st_EL F_st_EL_elements V_el_EL S_instance E_st_CD S_A V_st_A
  · exact law_02 l Z a0 hw ws p0 p1 p2 p3 cs st_NO st_DC st_EL el_EL st_CD st_A tA m_AL m_UL m_UR m_LM m_UM k_el_EL k_st_A h0 n0 Z0 hcs hA hs hpm sCS O0 S_DEFAULTCAPACITY_EMPTY_ELEMENTDATA S_NO M_java_util_ArrayList M_java_util_Collections_UnmodifiableList M_java_util_Collections_UnmodifiableRandomAccessList M_java_util_LinkedHashMap M_java_util_Collections_UnmodifiableMap S_EMPTY_LIST E_st_EL F_st_EL_elements V_el_EL S_instance E_st_CD S_A V_st_A
  · exact law_03 l Z a0 hw ws p0 p1 p2 p3 cs st_NO st_DC st_EL el_EL st_CD st_A tA m_AL m_UL m_UR m_LM m_UM k_el_EL k_st_A h0 n0 Z0 hcs hA hs hpm sCS O0 S_DEFAULTCAPACITY_EMPTY_ELEMENTDATA S_NO M_java_util_ArrayList M_java_util_Collections_UnmodifiableList M_java_util_Collections_UnmodifiableRandomAccessList M_java_util_LinkedHashMap M_java_util_Collections_UnmodifiableMap S_EMPTY_LIST E_st_EL F_st_EL_elements V_el_EL S_instance E_st_CD S_A V_st_A
  · exact law_10 l Z a0 hw ws p0 p1 p2 p3 cs st_NO st_DC st_EL el_EL st_CD st_A tA m_AL m_UL m_UR m_LM m_UM k_el_EL h0 n0 Z0 hcs hs hpm sCS O0 S_DEFAULTCAPACITY_EMPTY_ELEMENTDATA S_NO M_java_util_ArrayList M_java_util_Collections_UnmodifiableList M_java_util_Collections_UnmodifiableRandomAccessList M_java_util_LinkedHashMap M_java_util_Collections_UnmodifiableMap S_EMPTY_LIST F_st_EL_elements V_el_EL E_st_EL
  · exact law_11 l Z a0 hw ws p0 p1 p2 p3 cs st_NO st_DC st_EL el_EL st_CD st_A tA m_AL m_UL m_UR m_LM m_UM k_el_EL k_st_A h0 n0 Z0 hcs hA hs hpm sCS O0 S_DEFAULTCAPACITY_EMPTY_ELEMENTDATA S_NO M_java_util_ArrayList M_java_util_Collections_UnmodifiableList M_java_util_Collections_UnmodifiableRandomAccessList M_java_util_LinkedHashMap M_java_util_Collections_UnmodifiableMap S_EMPTY_LIST E_st_EL F_st_EL_elements V_el_EL S_instance E_st_CD S_A V_st_A
  · exact law_12 l Z a0 hw ws p0 p1 p2 p3 cs st_NO st_DC st_EL el_EL st_CD st_A tA m_AL m_UL m_UR m_LM m_UM k_el_EL k_st_A h0 n0 Z0 hcs hA hs hpm sCS O0 S_DEFAULTCAPACITY_EMPTY_ELEMENTDATA S_NO M_java_util_ArrayList M_java_util_Collections_UnmodifiableList M_java_util_Collections_UnmodifiableRandomAccessList M_java_util_LinkedHashMap M_java_util_Collections_UnmodifiableMap S_EMPTY_LIST E_st_EL F_st_EL_elements V_el_EL S_instance E_st_CD S_A V_st_A
  · exact law_13 l Z a0 hw ws p0 p1 p2 p3 cs st_NO st_DC st_EL el_EL st_CD st_A tA m_AL m_UL m_UR m_LM m_UM k_el_EL k_st_A h0 n0 Z0 hcs hA hs hpm sCS O0 S_DEFAULTCAPACITY_EMPTY_ELEMENTDATA S_NO M_java_util_ArrayList M_java_util_Collections_UnmodifiableList M_java_util_Collections_UnmodifiableRandomAccessList M_java_util_LinkedHashMap M_java_util_Collections_UnmodifiableMap S_EMPTY_LIST E_st_EL F_st_EL_elements V_el_EL S_instance E_st_CD S_A V_st_A
  · exact law_20 l Z a0 hw ws p0 p1 p2 p3 cs st_NO st_DC st_EL el_EL st_CD st_A tA m_AL m_UL m_UR m_LM m_UM k_el_EL h0 n0 Z0 hcs hs hpm sCS O0 S_DEFAULTCAPACITY_EMPTY_ELEMENTDATA S_NO M_java_util_ArrayList M_java_util_Collections_UnmodifiableList M_java_util_Collections_UnmodifiableRandomAccessList M_java_util_LinkedHashMap M_java_util_Collections_UnmodifiableMap S_EMPTY_LIST E_st_EL F_st_EL_elements V_el_EL
  · exact law_21 l Z a0 hw ws p0 p1 p2 p3 cs st_NO st_DC st_EL el_EL st_CD st_A tA m_AL m_UL m_UR m_LM m_UM k_el_EL k_st_A h0 n0 Z0 hcs hA hs hpm sCS O0 S_DEFAULTCAPACITY_EMPTY_ELEMENTDATA S_NO M_java_util_ArrayList M_java_util_Collections_UnmodifiableList M_java_util_Collections_UnmodifiableRandomAccessList M_java_util_LinkedHashMap M_java_util_Collections_UnmodifiableMap S_EMPTY_LIST E_st_EL F_st_EL_elements V_el_EL S_instance E_st_CD S_A V_st_A
  · exact law_22 l Z a0 hw ws p0 p1 p2 p3 cs st_NO st_DC st_EL el_EL st_CD st_A tA m_AL m_UL m_UR m_LM m_UM k_el_EL k_st_A h0 n0 Z0 hcs hA hs hpm sCS O0 S_DEFAULTCAPACITY_EMPTY_ELEMENTDATA S_NO M_java_util_ArrayList M_java_util_Collections_UnmodifiableList M_java_util_Collections_UnmodifiableRandomAccessList M_java_util_LinkedHashMap M_java_util_Collections_UnmodifiableMap S_EMPTY_LIST E_st_EL F_st_EL_elements V_el_EL S_instance E_st_CD S_A V_st_A
  · exact law_23 l Z a0 hw ws p0 p1 p2 p3 cs st_NO st_DC st_EL el_EL st_CD st_A tA m_AL m_UL m_UR m_LM m_UM k_el_EL k_st_A h0 n0 Z0 hcs hA hs hpm sCS O0 S_DEFAULTCAPACITY_EMPTY_ELEMENTDATA S_NO M_java_util_ArrayList M_java_util_Collections_UnmodifiableList M_java_util_Collections_UnmodifiableRandomAccessList M_java_util_LinkedHashMap M_java_util_Collections_UnmodifiableMap S_EMPTY_LIST E_st_EL F_st_EL_elements V_el_EL S_instance E_st_CD S_A V_st_A
theorem comes_1 {Post : Tables → Env → Array Value → State → Outcome → State → Prop} (hpost : ∀ tb e args s v u, (limb_1_1.after args s (.returned v) u = true ∧ limb_1_2.after args s (.returned v) u = true ∧ True) → ReturnedEndW s (.returned v) u (Jvm.fieldLocs frame_1_writes args s ++ Jvm.arrayLocs frame_1_arrays args s ++ Jvm.staticLocs frame_1_statics s) 56 5440 → Post tb e args s (.returned v) u) :
    ArmFor flags0 classFile x code maxLocals ret World_1 tables_1 room_1 Calls_1 rest_1 Pre_1 Post := by
  intro l hfl _ _ p e ha hc hk s m args below hf hA hF happ hP
  obtain ⟨hcalls, hrest, hpre⟩ := hP
  obtain ⟨-, -, -, hnamed, -, -, -, hat⟩ := (Spec.applies_iff hf).mp happ
  obtain ⟨hg, hn⟩ := and_e (Cond.before_iff.mp (show (Jvm.Cond.and given_1 narrow_1).before args s = true from hpre))
  obtain ⟨g1, g2⟩ := and_e hg
  obtain ⟨g3, g4⟩ := and_e g2
  obtain ⟨g5, g6⟩ := and_e g4
  obtain ⟨g7, g8⟩ := and_e g6
  obtain ⟨w0, w1, w2, w3, rfl⟩ : ∃ w0 w1 w2 w3 : Value, args = #[w0, w1, w2, w3] := by
    have hs : args.size = 4 := by simpa [Cond.value, given_1] using g1
    obtain ⟨L⟩ := args
    match L, hs with
    | [w0, w1, w2, w3], _ => exact ⟨w0, w1, w2, w3, rfl⟩
  have hw := fun d (hd : d ∈ tables_1) => atoms_spec (ws := Jvm.Cond.code x code maxLocals ret :: tables_1) hat d (List.mem_cons_of_mem _ hd)
  have hfit : Fit s := fun {y c} hc i hi => by
    obtain ⟨ha, rfl⟩ := Array.getElem?_eq_some_iff.mp hc
    have q := List.all_eq_true.mp ((Array.all_eq_true_iff_forall_mem.mp hF) _ (Array.getElem_mem ha)) i (List.mem_range.mpr hi)
    simpa [Array.getElem?_eq_getElem hi] using q
  obtain ⟨hsets, hown0⟩ := atoms_of _ (rest_1_c_eq ▸ (show rest_1_c.before _ s = true from hrest))
  have hr0 := Cond.before_iff.mp hown0
  obtain ⟨i0, ei0⟩ := is_v g3
  obtain rfl : w0 = (.int i0) := Option.some.inj ei0
  obtain ⟨i1, ei1⟩ := is_v g5
  obtain rfl : w1 = (.int i1) := Option.some.inj ei1
  obtain ⟨i2, ei2⟩ := is_v g7
  obtain rfl : w2 = (.int i2) := Option.some.inj ei2
  obtain ⟨i3, ei3⟩ := is_v g8
  obtain rfl : w3 = (.int i3) := Option.some.inj ei3
  obtain ⟨cs, ev_cs⟩ := is_v (Cond.before_iff.mp (hsets _ (List.mem_of_getElem? (i := 1) rfl)))
  have sCS := Sta.start ev_cs (Or.inl (hsets _ (List.mem_of_getElem? (i := 0) rfl)))
  have hcs : ¬ (cs = (0 : Int32)) := by
    have q := Cond.before_iff.mp (hsets _ (List.mem_of_getElem? (i := 2) rfl))
    simp only [Cond.value, ev_cs, Term.int_eval] at q
    simpa using q
  obtain ⟨fm, ev_fm, hfm⟩ := isR_v (Cond.before_iff.mp (hsets _ (List.mem_of_getElem? (i := 8) rfl)))
  have S_SIOOBE_FORMATTER := Sta.start ev_fm (Or.inl (hsets _ (List.mem_of_getElem? (i := 7) rfl)))
  obtain ⟨st_NO, ev_st_NO⟩ := exa_v hn
  have S_NO := Sta.start ev_st_NO (Or.inr ⟨(w73 hw), (w74 hw)⟩)
  have E_st_NO := Exa.start ev_st_NO hn
  obtain ⟨st_DC, ev_st_DC⟩ := arr_v (Cond.before_iff.mp (hsets _ (List.mem_of_getElem? (i := 15) rfl)))
  have S_DEFAULTCAPACITY_EMPTY_ELEMENTDATA := Sta.start ev_st_DC (Or.inr ⟨(w46 hw), (hsets _ (List.mem_of_getElem? (i := 11) rfl))⟩)
  obtain ⟨cl_st_DC, Ar_st_DC⟩ := Arr.start ev_st_DC (Cond.before_iff.mp (hsets _ (List.mem_of_getElem? (i := 15) rfl)))
  obtain ⟨q1_st_DC, q2_st_DC⟩ := own_alen ev_st_DC Ar_st_DC (eqv_i (Term.int_eval (0)) (Cond.before_iff.mp (hsets _ (List.mem_of_getElem? (i := 17) rfl))))
  have V_st_DC : Arv s s.heap st_DC cl_st_DC.cls (.object "java/lang/Object") (0 : Int32) [] .null := Arv.start hfit Ar_st_DC q1_st_DC q2_st_DC (by decide) (by decide) trivial
  obtain ⟨st_EL, ev_st_EL⟩ := exa_v (Cond.before_iff.mp (hsets _ (List.mem_of_getElem? (i := 20) rfl)))
  have S_EMPTY_LIST := Sta.start ev_st_EL (Or.inl (hsets _ (List.mem_of_getElem? (i := 19) rfl)))
  have E_st_EL := Exa.start ev_st_EL (Cond.before_iff.mp (hsets _ (List.mem_of_getElem? (i := 20) rfl)))
  obtain ⟨el_EL, ev_el_EL⟩ := arr_v (Cond.before_iff.mp (hsets _ (List.mem_of_getElem? (i := 21) rfl)))
  obtain ⟨cl_el_EL, Ar_el_EL⟩ := Arr.start ev_el_EL (Cond.before_iff.mp (hsets _ (List.mem_of_getElem? (i := 21) rfl)))
  obtain ⟨q1_el_EL, q2_el_EL⟩ := own_alen ev_el_EL Ar_el_EL (eqv_i (Term.int_eval (0)) (Cond.before_iff.mp (hsets _ (List.mem_of_getElem? (i := 23) rfl))))
  have V_el_EL : Arv s s.heap el_EL cl_el_EL.cls (.object "java/lang/Object") (0 : Int32) [] .null := Arv.start hfit Ar_el_EL q1_el_EL q2_el_EL (by decide) (by decide) trivial
  rw [fld_at ev_st_EL] at ev_el_EL
  have F_st_EL_elements := Fld.start ev_el_EL
  obtain ⟨st_CD, ev_st_CD⟩ := exa_v (Cond.before_iff.mp (hsets _ (List.mem_of_getElem? (i := 27) rfl)))
  have S_instance := Sta.start ev_st_CD (Or.inl (hsets _ (List.mem_of_getElem? (i := 26) rfl)))
  have E_st_CD := Exa.start ev_st_CD (Cond.before_iff.mp (hsets _ (List.mem_of_getElem? (i := 27) rfl)))
  obtain ⟨st_A, ev_st_A⟩ := arr_v (Cond.before_iff.mp (hsets _ (List.mem_of_getElem? (i := 30) rfl)))
  have S_A := Sta.start ev_st_A (Or.inl (hsets _ (List.mem_of_getElem? (i := 29) rfl)))
  obtain ⟨cl_st_A, Ar_st_A⟩ := Arr.start ev_st_A (Cond.before_iff.mp (hsets _ (List.mem_of_getElem? (i := 30) rfl)))
  obtain ⟨q1_st_A, q2_st_A⟩ := own_alen ev_st_A Ar_st_A (eqv_i (Term.int_eval (256)) (Cond.before_iff.mp (hsets _ (List.mem_of_getElem? (i := 32) rfl))))
  have V_st_A : Arv s s.heap st_A cl_st_A.cls .int 256 cl_st_A.slots.toList z0 := own_arvS hfit Ar_st_A q1_st_A q2_st_A (by decide)
  have hA : TabA cl_st_A.slots.toList := own_tab hsets ev_st_A Ar_st_A.1
  obtain ⟨kc_m_AL, kk_m_AL, m_AL, x1_m_AL, x2_m_AL, x3_m_AL⟩ := hcalls.1
  have M_java_util_ArrayList : OMir s "java/util/ArrayList" m_AL := ⟨kc_m_AL, kk_m_AL, x1_m_AL, x2_m_AL, (by first | exact x3_m_AL | exact x3_m_AL.1)⟩
  obtain ⟨kc_m_UL, kk_m_UL, m_UL, x1_m_UL, x2_m_UL, x3_m_UL⟩ := hcalls.2.1
  have M_java_util_Collections_UnmodifiableList : OMir s "java/util/Collections$UnmodifiableList" m_UL := ⟨kc_m_UL, kk_m_UL, x1_m_UL, x2_m_UL, (by first | exact x3_m_UL | exact x3_m_UL.1)⟩
  obtain ⟨kc_m_UR, kk_m_UR, m_UR, x1_m_UR, x2_m_UR, x3_m_UR⟩ := hcalls.2.2.1
  have M_java_util_Collections_UnmodifiableRandomAccessList : OMir s "java/util/Collections$UnmodifiableRandomAccessList" m_UR := ⟨kc_m_UR, kk_m_UR, x1_m_UR, x2_m_UR, (by first | exact x3_m_UR | exact x3_m_UR.1)⟩
  obtain ⟨kc_m_LM, kk_m_LM, m_LM, x1_m_LM, x2_m_LM, x3_m_LM⟩ := hcalls.2.2.2.1
  have M_java_util_LinkedHashMap : OMir s "java/util/LinkedHashMap" m_LM := ⟨kc_m_LM, kk_m_LM, x1_m_LM, x2_m_LM, (by first | exact x3_m_LM | exact x3_m_LM.1)⟩
  obtain ⟨kc_m_UM, kk_m_UM, m_UM, x1_m_UM, x2_m_UM, x3_m_UM⟩ := hcalls.2.2.2.2.1
  have M_java_util_Collections_UnmodifiableMap : OMir s "java/util/Collections$UnmodifiableMap" m_UM := ⟨kc_m_UM, kk_m_UM, x1_m_UM, x2_m_UM, (by first | exact x3_m_UM | exact x3_m_UM.1)⟩
  have hCH : CHv s consts_1 s.vm s.heap := CHv.start (own_EW hw) (fun p hp => hcalls.2.2.2.2.2.1 p hp) (hsets _ (List.mem_of_getElem? (i := 2) rfl)) (own_wS hw _ (by simp [Bundle.stringAtoms])) (own_wS hw _ (by simp [Bundle.stringAtoms, Bundle.sN]))
  obtain ⟨n, o, h1, h2, h3, _, L, rfl, ⟨rfl, N⟩, -, hq⟩ := rm_law l s _ hw tables_1 i0 i1 i2 i3 s.heap s.heap.size (Nat.le_refl _) cs st_NO st_DC st_EL el_EL st_CD st_A cl_st_A.slots.toList m_AL m_UL m_UR m_LM m_UM cl_el_EL.cls cl_st_A.cls hcs hA sCS (Old.start s) S_DEFAULTCAPACITY_EMPTY_ELEMENTDATA S_NO M_java_util_ArrayList M_java_util_Collections_UnmodifiableList M_java_util_Collections_UnmodifiableRandomAccessList M_java_util_LinkedHashMap M_java_util_Collections_UnmodifiableMap S_EMPTY_LIST E_st_EL F_st_EL_elements V_el_EL S_instance E_st_CD S_A V_st_A p e ha hc hk s m _ below hf ((Spec.applies_iff_loose hf).mp happ).1 ⟨rfl, State.Warmed39.refl s, rfl, hCH, sf0⟩ trivial
  refine ⟨n, _, h1, h2, h3, hpost _ _ _ _ _ _ ⟨Cond.after_iff.mpr rfl, Cond.after_iff.mpr (eq_i res_at (Term.int_eval (1)) rfl), trivial⟩ ⟨hq.1, hq.2.1, hq.2.2.1, (hq.2.2.2.sift fun y hy => Or.inr (N y hy)).mono (by decide) (by decide)⟩⟩
theorem main_1_1 : Claimed_1_1 := comes_1 fun _ _ _ _ _ _ h hF => ⟨h.1, hF⟩
theorem main_1_2 : Claimed_1_2 := comes_1 fun _ _ _ _ _ _ h hF => ⟨h.2.1, hF⟩
end Jvm.Pilot.@@N@@
namespace Jvm.Pilot.@@N@@
open Jvm Jvm.ClassFile Sem Op Lib Jvm.Free Jvm.Stand Jvm.Pilot.@@N@@.Jvm.D
/-! MADE BY PROGRAM (witnessworld.py) out of the Statement's table words and the real class files: 51 classes; the members and pool entries that the words name. The judged class is class 1, her method 1. -/
namespace start1
open Jvm.ClassFile
def u (s : String) : CpInfo := .utf8 (stringToUtf16 s)
/-- a pool by its gaps: so many unusable entries, then the entry; so many at the end -/
def gap : Nat → List CpInfo → List CpInfo
  | 0, r => r
  | n + 1, r => .unusable :: gap n r
def poolList (es : List (Nat × CpInfo)) (last : Nat) : List CpInfo := es.foldr (fun e r => gap e.1 (e.2 :: r)) (gap last [])
def pool (es : List (Nat × CpInfo)) (last : Nat) : Array CpInfo := ⟨poolList es last⟩
def fileOf (pool : Array CpInfo) (this : Nat) (attrs : Array Attribute := #[]) (ms : Array MethodInfo := #[]) (fl : Nat := 33) (sup : Nat := 0) (ifs : Array Nat := #[]) (fds : Array FieldInfo := #[]) : ClassFile where
  minorVersion := 0
  majorVersion := 65
  constantPool := pool
  accessFlags := fl
  thisClass := this
  superClass := sup
  interfaces := ifs
  fields := fds
  methods := ms
  attributes := attrs
def plain (name : String) (sup : Option ClassId) : Class where
  name := name
  kind := .ordinary
  loader := none
  accessFlags := 33
  super := sup
  interfaces := #[]
  cf := none
  fields := #[]
  methods := #[]
  instanceTypes := #[]
  staticTypes := #[]
  resolved := #[]
  callSites := []
  init := .initialized
  statics := none
  mirror := none

def pool0 : Array CpInfo := pool [(5, u "<init>"), (0, u "()V"), (1, .class_ 10), (1, u "java/lang/Object"), (0, u "getClass"), (0, u "()Ljava/lang/Class;")] 111

def k0c0 : Code := { maxStack := 0, maxLocals := 1, code := object_method_1_code, exceptionTable := #[], attributes := #[] }
def k0m0 : Method := { name := "<init>", desc := "()V", sig := { parameters := [], returnType := none }, accessFlags := 1, code := some k0c0 }
def k0m1 : Method := { name := "getClass", desc := "()Ljava/lang/Class;", sig := { parameters := [], returnType := some (.object "java/lang/Class") }, accessFlags := 273, code := none }
/-- java/lang/Object -/
def k0 : Class := { plain "java/lang/Object" none with
  accessFlags := 33
  interfaces := #[]
  cf := some (fileOf pool0 8 #[] #[{ accessFlags := 1, nameIndex := 5, descriptorIndex := 6, attributes := #[] }, { accessFlags := 273, nameIndex := 11, descriptorIndex := 12, attributes := #[] }] 33 0 #[] #[])
  fields := #[]
  methods := #[k0m0, k0m1]
  instanceTypes := #[]
  staticTypes := #[]
  resolved := Array.replicate 124 none
  statics := none }

def pool1 : Array CpInfo := pool [(2, .class_ 4), (0, .nameAndType 5 6), (0, u "java/lang/Object"), (0, u "<init>"), (0, u "()V"), (0, .integer 2147483647), (0, .class_ 9), (0, u "java/lang/String"), (0, .methodref 8 11), (0, .nameAndType 5 12), (0, u "([C)V"), (0, .class_ 14), (0, u "com/example/graft_container/graftcontainer/BeanDefinition"), (0, .methodref 13 3), (0, .methodref 13 17), (0, .nameAndType 18 19), (0, u "setParentName"), (0, u "(Ljava/lang/String;)V"), (0, .string 21), (0, u "singleton"), (0, .methodref 13 23), (0, .nameAndType 24 19), (0, u "setScope"), (0, .string 26), (0, u "prototype"), (0, .methodref 13 28), (0, .nameAndType 29 30), (0, u "getScope"), (0, u "()Ljava/lang/String;"), (0, .methodref 8 32), (0, .nameAndType 33 34), (0, u "equals"), (0, u "(Ljava/lang/Object;)Z"), (0, .class_ 36), (0, u "com/example/graft_container/graftcontainer/BeanDefinitionGetScopePinLaw"), (2, u "law"), (0, u "(IIII)Z")] 5

def k1m0 : Method := { name := "<init>", desc := "()V", sig := { parameters := [], returnType := none }, accessFlags := 1, code := none }
def k1c1 : Code := { maxStack := 5, maxLocals := 12, code := code, exceptionTable := #[], attributes := #[] }
def k1m1 : Method := { name := "law", desc := "(IIII)Z", sig := { parameters := [.int, .int, .int, .int], returnType := some .boolean }, accessFlags := 9, code := some k1c1 }
/-- com/example/graft_container/graftcontainer/BeanDefinitionGetScopePinLaw -/
def k1 : Class := { plain "com/example/graft_container/graftcontainer/BeanDefinitionGetScopePinLaw" (some 0) with
  accessFlags := 49
  interfaces := #[]
  cf := some (fileOf pool1 35 #[] #[{ accessFlags := 1, nameIndex := 5, descriptorIndex := 6, attributes := #[] }, { accessFlags := 9, nameIndex := 39, descriptorIndex := 40, attributes := #[] }] 49 2 #[] #[])
  fields := #[]
  methods := #[k1m0, k1m1]
  instanceTypes := #[]
  staticTypes := #[]
  resolved := Array.replicate 46 none
  statics := none }

def pool2 : Array CpInfo := pool [(1, .class_ 2), (0, u "java/io/Serializable"), (0, .class_ 4), (0, u "java/lang/Object")] 2

/-- java/io/Serializable -/
def k2 : Class := { plain "java/io/Serializable" (some 0) with
  accessFlags := 1537
  interfaces := #[]
  cf := some (fileOf pool2 1 #[] #[] 1537 3 #[] #[])
  fields := #[]
  methods := #[]
  instanceTypes := #[]
  staticTypes := #[]
  resolved := Array.replicate 7 none
  statics := none }

def pool3 : Array CpInfo := pool [(1, .class_ 2), (0, u "java/lang/Comparable"), (0, .class_ 4), (0, u "java/lang/Object")] 7

/-- java/lang/Comparable -/
def k3 : Class := { plain "java/lang/Comparable" (some 0) with
  accessFlags := 1537
  interfaces := #[]
  cf := some (fileOf pool3 1 #[] #[] 1537 3 #[] #[])
  fields := #[]
  methods := #[]
  instanceTypes := #[]
  staticTypes := #[]
  resolved := Array.replicate 12 none
  statics := none }

def pool4 : Array CpInfo := pool [(2, .class_ 4), (1, u "java/lang/CharSequence"), (42, .class_ 48), (0, u "java/lang/CharSequence$1CodePointIterator"), (10, .class_ 60), (0, u "java/lang/CharSequence$1CharIterator"), (5, .class_ 67), (0, u "java/lang/Object")] 63

/-- java/lang/CharSequence -/
def k4 : Class := { plain "java/lang/CharSequence" (some 0) with
  accessFlags := 1537
  interfaces := #[]
  cf := some (fileOf pool4 2 #[.nestMembers #[47, 59]] #[] 1537 66 #[] #[])
  fields := #[]
  methods := #[]
  instanceTypes := #[]
  staticTypes := #[]
  resolved := Array.replicate 131 none
  statics := none }

def pool5 : Array CpInfo := pool [(1, .class_ 2), (0, u "java/lang/constant/Constable"), (0, .class_ 4), (0, u "java/lang/Object")] 6

/-- java/lang/constant/Constable -/
def k5 : Class := { plain "java/lang/constant/Constable" (some 0) with
  accessFlags := 1537
  interfaces := #[]
  cf := some (fileOf pool5 1 #[] #[] 1537 3 #[] #[])
  fields := #[]
  methods := #[]
  instanceTypes := #[]
  staticTypes := #[]
  resolved := Array.replicate 11 none
  statics := none }

def pool6 : Array CpInfo := pool [(1, .class_ 2), (0, u "java/lang/constant/ConstantDesc"), (0, .class_ 4), (0, u "java/lang/Object")] 32

/-- java/lang/constant/ConstantDesc -/
def k6 : Class := { plain "java/lang/constant/ConstantDesc" (some 0) with
  accessFlags := 1537
  interfaces := #[]
  cf := some (fileOf pool6 1 #[] #[] 1537 3 #[] #[])
  fields := #[]
  methods := #[]
  instanceTypes := #[]
  staticTypes := #[]
  resolved := Array.replicate 37 none
  statics := none }

def pool7 : Array CpInfo := pool [(1, .methodref 2 3), (0, .class_ 4), (0, .nameAndType 5 6), (0, u "java/lang/Object"), (0, u "<init>"), (0, u "()V"), (2, .fieldref 10 11), (0, .class_ 12), (0, .nameAndType 13 14), (0, u "java/lang/String"), (0, u "value"), (0, u "[B"), (0, .fieldref 10 16), (0, .nameAndType 17 18), (0, u "coder"), (0, u "B"), (2, u "hash"), (0, u "I"), (2, u "hashIsZero"), (0, u "Z"), (0, .methodref 10 28), (0, .nameAndType 5 29), (0, u "([CIILjava/lang/Void;)V"), (8, .fieldref 10 39), (0, .nameAndType 40 26), (0, u "COMPACT_STRINGS"), (1, .class_ 44), (1, u "java/lang/StringUTF16"), (0, u "compress"), (1, .methodref 42 48), (0, .nameAndType 49 50), (0, u "coderFromArrayLen"), (0, u "([BI)B"), (56, .class_ 109), (1, u "java/lang/StringLatin1"), (32, u "()Z"), (34, .methodref 42 178), (0, .nameAndType 45 179), (0, u "([CII)[B"), (154, u "()I"), (0, .methodref 10 336), (0, .nameAndType 17 337), (0, u "()B"), (154, .methodref 10 493), (0, .nameAndType 494 142), (0, u "isLatin1"), (10, .methodref 10 506), (0, .nameAndType 507 334), (0, u "length"), (33, .methodref 107 542), (0, .nameAndType 543 544), (0, u "equals"), (0, u "([B[B)Z"), (28, u "(Ljava/lang/Object;)Z"), (1, .class_ 576), (0, u "java/lang/CharSequence"), (22, u "CASE_INSENSITIVE_ORDER"), (0, u "Ljava/util/Comparator;"), (30, u "([B)I"), (244, .methodref 10 877), (0, .nameAndType 878 334), (0, u "indexOfNonWhitespace"), (45, .methodref 107 925), (0, .nameAndType 878 631), (26, u "isBlank"), (57, u "([C)V"), (90, u "serialPersistentFields"), (0, u "[Ljava/io/ObjectStreamField;"), (0, .class_ 1104), (0, u "java/lang/String$CaseInsensitiveComparator"), (1, .class_ 1107), (0, u "java/io/Serializable"), (0, .class_ 1109), (0, u "java/lang/Comparable"), (0, .class_ 1111), (0, u "java/lang/constant/Constable"), (0, .class_ 1113), (0, u "java/lang/constant/ConstantDesc"), (2, u "serialVersionUID"), (0, u "J"), (3, u "REPL"), (0, u "C"), (2, u "LATIN1"), (1, u "UTF16")] 323

def k7m0 : Method := { name := "<init>", desc := "()V", sig := { parameters := [], returnType := none }, accessFlags := 1, code := none }
def k7c1 : Code := { maxStack := 5, maxLocals := 2, code := jdk_42_method_3_code, exceptionTable := #[], attributes := #[] }
def k7m1 : Method := { name := "<init>", desc := "([C)V", sig := { parameters := [(.array .char)], returnType := none }, accessFlags := 1, code := some k7c1 }
def k7c2 : Code := { maxStack := 2, maxLocals := 1, code := jdk_42_method_54_code, exceptionTable := #[], attributes := #[] }
def k7m2 : Method := { name := "length", desc := "()I", sig := { parameters := [], returnType := some .int }, accessFlags := 1, code := some k7c2 }
def k7c3 : Code := { maxStack := 2, maxLocals := 3, code := jdk_42_method_66_code, exceptionTable := #[], attributes := #[] }
def k7m3 : Method := { name := "equals", desc := "(Ljava/lang/Object;)Z", sig := { parameters := [(.object "java/lang/Object")], returnType := some .boolean }, accessFlags := 1, code := some k7c3 }
def k7c4 : Code := { maxStack := 2, maxLocals := 1, code := jdk_42_method_117_code, exceptionTable := #[], attributes := #[] }
def k7m4 : Method := { name := "isBlank", desc := "()Z", sig := { parameters := [], returnType := some .boolean }, accessFlags := 1, code := some k7c4 }
def k7c5 : Code := { maxStack := 1, maxLocals := 1, code := jdk_42_method_120_code, exceptionTable := #[], attributes := #[] }
def k7m5 : Method := { name := "indexOfNonWhitespace", desc := "()I", sig := { parameters := [], returnType := some .int }, accessFlags := 2, code := some k7c5 }
def k7c6 : Code := { maxStack := 4, maxLocals := 6, code := jdk_42_method_149_code, exceptionTable := #[], attributes := #[] }
def k7m6 : Method := { name := "<init>", desc := "([CIILjava/lang/Void;)V", sig := { parameters := [(.array .char), .int, .int, (.object "java/lang/Void")], returnType := none }, accessFlags := 2, code := some k7c6 }
def k7c7 : Code := { maxStack := 1, maxLocals := 1, code := jdk_42_method_152_code, exceptionTable := #[], attributes := #[] }
def k7m7 : Method := { name := "coder", desc := "()B", sig := { parameters := [], returnType := some .byte }, accessFlags := 0, code := some k7c7 }
def k7c8 : Code := { maxStack := 1, maxLocals := 1, code := jdk_42_method_154_code, exceptionTable := #[], attributes := #[] }
def k7m8 : Method := { name := "isLatin1", desc := "()Z", sig := { parameters := [], returnType := some .boolean }, accessFlags := 0, code := some k7c8 }
/-- java/lang/String -/
def k7 : Class := { plain "java/lang/String" (some 0) with
  accessFlags := 49
  interfaces := #[2, 3, 4, 5, 6]
  cf := some (fileOf pool7 10 #[.nestMembers #[1103]] #[{ accessFlags := 1, nameIndex := 5, descriptorIndex := 6, attributes := #[] }, { accessFlags := 1, nameIndex := 5, descriptorIndex := 1010, attributes := #[] }, { accessFlags := 1, nameIndex := 507, descriptorIndex := 334, attributes := #[] }, { accessFlags := 1, nameIndex := 543, descriptorIndex := 573, attributes := #[] }, { accessFlags := 1, nameIndex := 952, descriptorIndex := 142, attributes := #[] }, { accessFlags := 2, nameIndex := 878, descriptorIndex := 334, attributes := #[] }, { accessFlags := 2, nameIndex := 5, descriptorIndex := 29, attributes := #[] }, { accessFlags := 0, nameIndex := 17, descriptorIndex := 337, attributes := #[] }, { accessFlags := 0, nameIndex := 494, descriptorIndex := 142, attributes := #[] }] 49 2 #[1106, 1108, 575, 1110, 1112] #[{ accessFlags := 18, nameIndex := 13, descriptorIndex := 14, attributes := #[] }, { accessFlags := 18, nameIndex := 17, descriptorIndex := 18, attributes := #[] }, { accessFlags := 2, nameIndex := 21, descriptorIndex := 22, attributes := #[] }, { accessFlags := 2, nameIndex := 25, descriptorIndex := 26, attributes := #[] }, { accessFlags := 26, nameIndex := 1116, descriptorIndex := 1117, attributes := #[] }, { accessFlags := 24, nameIndex := 40, descriptorIndex := 26, attributes := #[] }, { accessFlags := 26, nameIndex := 1101, descriptorIndex := 1102, attributes := #[] }, { accessFlags := 26, nameIndex := 1121, descriptorIndex := 1122, attributes := #[] }, { accessFlags := 25, nameIndex := 599, descriptorIndex := 600, attributes := #[] }, { accessFlags := 24, nameIndex := 1125, descriptorIndex := 18, attributes := #[] }, { accessFlags := 24, nameIndex := 1127, descriptorIndex := 18, attributes := #[] }])
  fields := #[{ name := "value", type := (.array .byte), accessFlags := 18, slot := 0, constantValue := 0 }, { name := "coder", type := .byte, accessFlags := 18, slot := 1, constantValue := 0 }, { name := "hash", type := .int, accessFlags := 2, slot := 2, constantValue := 0 }, { name := "hashIsZero", type := .boolean, accessFlags := 2, slot := 3, constantValue := 0 }, { name := "serialVersionUID", type := .long, accessFlags := 26, slot := 0, constantValue := 0 }, { name := "COMPACT_STRINGS", type := .boolean, accessFlags := 24, slot := 1, constantValue := 0 }, { name := "serialPersistentFields", type := (.array (.object "java/io/ObjectStreamField")), accessFlags := 26, slot := 2, constantValue := 0 }, { name := "REPL", type := .char, accessFlags := 26, slot := 3, constantValue := 0 }, { name := "CASE_INSENSITIVE_ORDER", type := (.object "java/util/Comparator"), accessFlags := 25, slot := 4, constantValue := 0 }, { name := "LATIN1", type := .byte, accessFlags := 24, slot := 5, constantValue := 0 }, { name := "UTF16", type := .byte, accessFlags := 24, slot := 6, constantValue := 0 }]
  methods := #[k7m0, k7m1, k7m2, k7m3, k7m4, k7m5, k7m6, k7m7, k7m8]
  instanceTypes := #[(.array .byte), .byte, .int, .boolean]
  staticTypes := #[.long, .boolean, (.array (.object "java/io/ObjectStreamField")), .char, (.object "java/util/Comparator"), .byte, .byte]
  resolved := Array.replicate 1451 none
  statics := some 0 }

def pool8 : Array CpInfo := pool [(6, .class_ 8), (1, u "java/lang/Object"), (0, u "<init>"), (0, u "()V"), (1, .class_ 14), (1, u "java/lang/StringUTF16"), (31, u "$assertionsDisabled"), (0, u "Z"), (13, u "HI_BYTE_SHIFT"), (0, u "I"), (2, u "LO_BYTE_SHIFT"), (49, .methodref 12 116), (0, .nameAndType 117 118), (0, u "compress"), (0, u "([CI[BII)I"), (3, u "([CII)[B"), (138, u "coderFromArrayLen"), (0, u "([BI)B"), (106, .class_ 371), (1, u "java/lang/StringUTF16$LinesSpliterator"), (58, u "MAX_LENGTH"), (196, .class_ 628), (0, u "java/lang/StringUTF16$CodePointsSpliterator"), (0, .class_ 630), (0, u "java/lang/StringUTF16$CharsSpliterator")] 4

def k8m0 : Method := { name := "<init>", desc := "()V", sig := { parameters := [], returnType := none }, accessFlags := 0, code := none }
def k8c1 : Code := { maxStack := 2, maxLocals := 2, code := jdk_52_method_15_code, exceptionTable := #[], attributes := #[] }
def k8m1 : Method := { name := "coderFromArrayLen", desc := "([BI)B", sig := { parameters := [(.array .byte), .int], returnType := some .byte }, accessFlags := 8, code := some k8c1 }
def k8c2 : Code := { maxStack := 5, maxLocals := 6, code := jdk_52_method_16_code, exceptionTable := #[], attributes := #[] }
def k8m2 : Method := { name := "compress", desc := "([CII)[B", sig := { parameters := [(.array .char), .int, .int], returnType := some (.array .byte) }, accessFlags := 9, code := some k8c2 }
def k8c3 : Code := { maxStack := 3, maxLocals := 7, code := jdk_52_method_21_code, exceptionTable := #[], attributes := #[] }
def k8m3 : Method := { name := "compress", desc := "([CI[BII)I", sig := { parameters := [(.array .char), .int, (.array .byte), .int, .int], returnType := some .int }, accessFlags := 9, code := some k8c3 }
/-- java/lang/StringUTF16 -/
def k8 : Class := { plain "java/lang/StringUTF16" (some 0) with
  accessFlags := 48
  interfaces := #[]
  cf := some (fileOf pool8 12 #[.nestMembers #[627, 629, 369]] #[{ accessFlags := 0, nameIndex := 9, descriptorIndex := 10, attributes := #[] }, { accessFlags := 8, nameIndex := 261, descriptorIndex := 262, attributes := #[] }, { accessFlags := 9, nameIndex := 117, descriptorIndex := 122, attributes := #[] }, { accessFlags := 9, nameIndex := 117, descriptorIndex := 118, attributes := #[] }] 48 6 #[] #[{ accessFlags := 26, nameIndex := 61, descriptorIndex := 62, attributes := #[] }, { accessFlags := 26, nameIndex := 65, descriptorIndex := 62, attributes := #[] }, { accessFlags := 24, nameIndex := 430, descriptorIndex := 62, attributes := #[] }, { accessFlags := 4120, nameIndex := 46, descriptorIndex := 47, attributes := #[] }])
  fields := #[{ name := "HI_BYTE_SHIFT", type := .int, accessFlags := 26, slot := 0, constantValue := 0 }, { name := "LO_BYTE_SHIFT", type := .int, accessFlags := 26, slot := 1, constantValue := 0 }, { name := "MAX_LENGTH", type := .int, accessFlags := 24, slot := 2, constantValue := 0 }, { name := "$assertionsDisabled", type := .boolean, accessFlags := 4120, slot := 3, constantValue := 0 }]
  methods := #[k8m0, k8m1, k8m2, k8m3]
  instanceTypes := #[]
  staticTypes := #[.int, .int, .int, .boolean]
  resolved := Array.replicate 635 none
  statics := none }

def pool9 : Array CpInfo := pool [(1, .methodref 2 3), (0, .class_ 4), (0, .nameAndType 5 6), (0, u "java/lang/Object"), (0, u "<init>"), (0, u "()V"), (0, .fieldref 8 9), (0, .class_ 10), (0, .nameAndType 11 12), (0, u "com/example/graft_container/graftcontainer/BeanDefinition"), (0, u "singleton"), (0, u "Z"), (0, .fieldref 8 14), (0, .nameAndType 15 12), (0, u "initMethodRequired"), (0, .fieldref 8 17), (0, .nameAndType 18 12), (0, u "destroyMethodRequired"), (0, .class_ 20), (0, u "java/util/ArrayList"), (0, .methodref 19 3), (0, .fieldref 8 23), (0, .nameAndType 24 25), (0, u "dependsOn"), (0, u "Ljava/util/List;"), (0, .fieldref 8 27), (0, .nameAndType 28 12), (0, u "autowireCandidate"), (0, .fieldref 30 31), (0, .class_ 32), (0, .nameAndType 33 34), (0, u "com/example/graft_container/graftcontainer/BeanDefinition$Autowire"), (0, u "NO"), (0, u "Lcom/example/graft_container/graftcontainer/BeanDefinition$Autowire;"), (0, .fieldref 8 36), (0, .nameAndType 37 34), (0, u "autowireMode"), (0, .class_ 39), (0, u "java/util/LinkedHashMap"), (0, .methodref 38 3), (0, .fieldref 8 42), (0, .nameAndType 43 44), (0, u "qualifiers"), (0, u "Ljava/util/Map;"), (0, .fieldref 8 46), (0, .nameAndType 47 25), (0, u "propertyValues"), (0, .fieldref 8 49), (0, .nameAndType 50 25), (0, u "constructorArguments"), (0, .methodref 52 53), (0, .class_ 54), (0, .nameAndType 55 56), (0, u "java/util/Collections"), (0, u "unmodifiableList"), (0, u "(Ljava/util/List;)Ljava/util/List;"), (0, .fieldref 8 58), (0, .nameAndType 59 25), (0, u "dependsOnView"), (0, .methodref 52 61), (0, .nameAndType 62 63), (0, u "unmodifiableMap"), (0, u "(Ljava/util/Map;)Ljava/util/Map;"), (0, .fieldref 8 65), (0, .nameAndType 66 44), (0, u "qualifiersView"), (0, .fieldref 8 68), (0, .nameAndType 69 25), (0, u "propertyValuesView"), (0, .fieldref 8 71), (0, .nameAndType 72 25), (0, u "constructorArgumentsView"), (0, .interfaceMethodref 74 75), (0, .class_ 76), (0, .nameAndType 77 78), (0, u "java/util/List"), (0, u "of"), (0, u "()Ljava/util/List;"), (0, .fieldref 8 80), (0, .nameAndType 81 25), (0, u "changeListeners"), (0, .fieldref 8 83), (0, .nameAndType 84 25), (0, u "outers"), (6, u "className"), (0, u "Ljava/lang/String;"), (0, .methodref 8 94), (0, .nameAndType 95 6), (0, u "beginChange"), (2, u "factoryMethodName"), (2, .methodref 8 102), (0, .nameAndType 103 104), (0, u "requireTextOrNull"), (0, u "(Ljava/lang/String;Ljava/lang/String;)Ljava/lang/String;"), (2, u "factoryBeanName"), (2, .fieldref 8 111), (0, .nameAndType 112 92), (0, u "parentName"), (0, .string 114), (0, u "A parent definition's name must not be blank"), (0, .methodref 8 116), (0, .nameAndType 117 118), (0, u "singletonScope"), (0, u "()Z"), (2, u "abstractDefinition"), (0, .fieldref 8 123), (0, .nameAndType 124 12), (0, u "frozen"), (16, u "(Ljava/lang/Object;)Z"), (4, .fieldref 8 147), (0, .nameAndType 148 92), (0, u "scope"), (0, .string 11), (0, .methodref 151 152), (0, .class_ 153), (0, .nameAndType 154 141), (0, u "java/lang/String"), (0, u "equals"), (0, .string 156), (0, u "prototype"), (7, u "(Ljava/lang/String;)V"), (0, .methodref 8 166), (0, .nameAndType 167 168), (0, u "getScope"), (0, u "()Ljava/lang/String;"), (2, u "lazyInit"), (2, u "initMethodName"), (4, u "initMethodGiven"), (2, u "destroyMethodName"), (4, u "destroyMethodGiven"), (2, .interfaceMethodref 74 191), (0, .nameAndType 192 193), (0, u "size"), (0, u "()I"), (3, .interfaceMethodref 74 198), (0, .nameAndType 199 200), (0, u "iterator"), (0, u "()Ljava/util/Iterator;"), (0, .interfaceMethodref 202 203), (0, .class_ 204), (0, .nameAndType 205 118), (0, u "java/util/Iterator"), (0, u "hasNext"), (18, u "primary"), (17, .class_ 243), (0, u "com/example/graft_container/graftcontainer/BeanDefinition$PropertyValue"), (28, .class_ 273), (0, u "com/example/graft_container/graftcontainer/BeanDefinition$ConstructorArgument"), (29, u "INNER_BEAN_FINDER"), (0, u "Lcom/example/graft_container/graftcontainer/BeanDefinition$InnerBeanFinder;"), (7, .class_ 313), (0, u "com/example/graft_container/graftcontainer/BeanDefinition$Value$InnerBean"), (13, .methodref 8 328), (0, .nameAndType 329 118), (0, u "isFrozen"), (7, .methodref 8 338), (0, .nameAndType 339 6), (0, u "announceChange"), (5, .methodref 151 346), (0, .nameAndType 347 118), (0, u "isBlank"), (9, .class_ 359), (1, u "com/example/graft_container/graftcontainer/BeanDefinition$Value"), (6, .class_ 367), (0, u "com/example/graft_container/graftcontainer/BeanDefinition$InnerBeanFinder"), (1, u "SCOPE_SINGLETON"), (1, u "SCOPE_PROTOTYPE"), (16, u "setParentName"), (7, u "setScope"), (52, .class_ 450), (0, u "com/example/graft_container/graftcontainer/BeanDefinition$Value$Props"), (0, .class_ 452), (0, u "com/example/graft_container/graftcontainer/BeanDefinition$Value$Entries"), (0, .class_ 454), (0, u "com/example/graft_container/graftcontainer/BeanDefinition$Value$Entries$Entry"), (0, .class_ 456), (0, u "com/example/graft_container/graftcontainer/BeanDefinition$Value$Elements"), (0, .class_ 458), (0, u "com/example/graft_container/graftcontainer/BeanDefinition$Value$Elements$Kind"), (0, .class_ 460), (0, u "com/example/graft_container/graftcontainer/BeanDefinition$Value$BeanName"), (0, .class_ 462), (0, u "com/example/graft_container/graftcontainer/BeanDefinition$Value$Null"), (0, .class_ 464), (0, u "com/example/graft_container/graftcontainer/BeanDefinition$Value$Reference"), (0, .class_ 466), (0, u "com/example/graft_container/graftcontainer/BeanDefinition$Value$Text")] 38

def k9c0 : Code := { maxStack := 3, maxLocals := 1, code := prog_7_method_1_code, exceptionTable := #[], attributes := #[] }
def k9m0 : Method := { name := "<init>", desc := "()V", sig := { parameters := [], returnType := none }, accessFlags := 1, code := some k9c0 }
def k9c1 : Code := { maxStack := 3, maxLocals := 2, code := prog_7_method_10_code, exceptionTable := #[], attributes := #[] }
def k9m1 : Method := { name := "setParentName", desc := "(Ljava/lang/String;)V", sig := { parameters := [(.object "java/lang/String")], returnType := none }, accessFlags := 1, code := some k9c1 }
def k9c2 : Code := { maxStack := 1, maxLocals := 2, code := prog_7_method_15_code, exceptionTable := #[], attributes := #[] }
def k9m2 : Method := { name := "getScope", desc := "()Ljava/lang/String;", sig := { parameters := [], returnType := some (.object "java/lang/String") }, accessFlags := 1, code := some k9c2 }
def k9c3 : Code := { maxStack := 3, maxLocals := 2, code := prog_7_method_16_code, exceptionTable := #[], attributes := #[] }
def k9m3 : Method := { name := "setScope", desc := "(Ljava/lang/String;)V", sig := { parameters := [(.object "java/lang/String")], returnType := none }, accessFlags := 1, code := some k9c3 }
def k9c4 : Code := { maxStack := 2, maxLocals := 1, code := prog_7_method_19_code, exceptionTable := #[], attributes := #[] }
def k9m4 : Method := { name := "singletonScope", desc := "()Z", sig := { parameters := [], returnType := some .boolean }, accessFlags := 2, code := some k9c4 }
def k9c5 : Code := { maxStack := 3, maxLocals := 2, code := prog_7_method_54_code, exceptionTable := #[], attributes := #[] }
def k9m5 : Method := { name := "beginChange", desc := "()V", sig := { parameters := [], returnType := none }, accessFlags := 2, code := some k9c5 }
def k9c6 : Code := { maxStack := 2, maxLocals := 3, code := prog_7_method_55_code, exceptionTable := #[], attributes := #[] }
def k9m6 : Method := { name := "isFrozen", desc := "()Z", sig := { parameters := [], returnType := some .boolean }, accessFlags := 2, code := some k9c6 }
def k9c7 : Code := { maxStack := 1, maxLocals := 3, code := prog_7_method_56_code, exceptionTable := #[], attributes := #[] }
def k9m7 : Method := { name := "announceChange", desc := "()V", sig := { parameters := [], returnType := none }, accessFlags := 2, code := some k9c7 }
def k9c8 : Code := { maxStack := 3, maxLocals := 2, code := prog_7_method_59_code, exceptionTable := #[], attributes := #[] }
def k9m8 : Method := { name := "requireTextOrNull", desc := "(Ljava/lang/String;Ljava/lang/String;)Ljava/lang/String;", sig := { parameters := [(.object "java/lang/String"), (.object "java/lang/String")], returnType := some (.object "java/lang/String") }, accessFlags := 10, code := some k9c8 }
/-- com/example/graft_container/graftcontainer/BeanDefinition -/
def k9 : Class := { plain "com/example/graft_container/graftcontainer/BeanDefinition" (some 0) with
  accessFlags := 33
  interfaces := #[]
  cf := some (fileOf pool9 8 #[.nestMembers #[272, 242, 366, 357, 449, 312, 451, 453, 455, 457, 459, 461, 463, 465, 30]] #[{ accessFlags := 1, nameIndex := 5, descriptorIndex := 6, attributes := #[] }, { accessFlags := 1, nameIndex := 388, descriptorIndex := 164, attributes := #[] }, { accessFlags := 1, nameIndex := 167, descriptorIndex := 168, attributes := #[] }, { accessFlags := 1, nameIndex := 396, descriptorIndex := 164, attributes := #[] }, { accessFlags := 2, nameIndex := 117, descriptorIndex := 118, attributes := #[] }, { accessFlags := 2, nameIndex := 95, descriptorIndex := 6, attributes := #[] }, { accessFlags := 2, nameIndex := 329, descriptorIndex := 118, attributes := #[] }, { accessFlags := 2, nameIndex := 339, descriptorIndex := 6, attributes := #[] }, { accessFlags := 10, nameIndex := 103, descriptorIndex := 104, attributes := #[] }] 33 2 #[] #[{ accessFlags := 25, nameIndex := 369, descriptorIndex := 92, attributes := #[] }, { accessFlags := 25, nameIndex := 371, descriptorIndex := 92, attributes := #[] }, { accessFlags := 26, nameIndex := 303, descriptorIndex := 304, attributes := #[] }, { accessFlags := 2, nameIndex := 91, descriptorIndex := 92, attributes := #[] }, { accessFlags := 2, nameIndex := 98, descriptorIndex := 92, attributes := #[] }, { accessFlags := 2, nameIndex := 107, descriptorIndex := 92, attributes := #[] }, { accessFlags := 2, nameIndex := 112, descriptorIndex := 92, attributes := #[] }, { accessFlags := 2, nameIndex := 121, descriptorIndex := 12, attributes := #[] }, { accessFlags := 2, nameIndex := 148, descriptorIndex := 92, attributes := #[] }, { accessFlags := 2, nameIndex := 11, descriptorIndex := 12, attributes := #[] }, { accessFlags := 2, nameIndex := 171, descriptorIndex := 12, attributes := #[] }, { accessFlags := 2, nameIndex := 174, descriptorIndex := 92, attributes := #[] }, { accessFlags := 2, nameIndex := 15, descriptorIndex := 12, attributes := #[] }, { accessFlags := 2, nameIndex := 179, descriptorIndex := 12, attributes := #[] }, { accessFlags := 2, nameIndex := 182, descriptorIndex := 92, attributes := #[] }, { accessFlags := 2, nameIndex := 18, descriptorIndex := 12, attributes := #[] }, { accessFlags := 2, nameIndex := 187, descriptorIndex := 12, attributes := #[] }, { accessFlags := 18, nameIndex := 24, descriptorIndex := 25, attributes := #[] }, { accessFlags := 2, nameIndex := 224, descriptorIndex := 12, attributes := #[] }, { accessFlags := 2, nameIndex := 28, descriptorIndex := 12, attributes := #[] }, { accessFlags := 2, nameIndex := 37, descriptorIndex := 34, attributes := #[] }, { accessFlags := 18, nameIndex := 43, descriptorIndex := 44, attributes := #[] }, { accessFlags := 18, nameIndex := 47, descriptorIndex := 25, attributes := #[] }, { accessFlags := 18, nameIndex := 50, descriptorIndex := 25, attributes := #[] }, { accessFlags := 18, nameIndex := 59, descriptorIndex := 25, attributes := #[] }, { accessFlags := 18, nameIndex := 66, descriptorIndex := 44, attributes := #[] }, { accessFlags := 18, nameIndex := 69, descriptorIndex := 25, attributes := #[] }, { accessFlags := 18, nameIndex := 72, descriptorIndex := 25, attributes := #[] }, { accessFlags := 66, nameIndex := 124, descriptorIndex := 12, attributes := #[] }, { accessFlags := 2, nameIndex := 81, descriptorIndex := 25, attributes := #[] }, { accessFlags := 2, nameIndex := 84, descriptorIndex := 25, attributes := #[] }])
  fields := #[{ name := "SCOPE_SINGLETON", type := (.object "java/lang/String"), accessFlags := 25, slot := 0, constantValue := 0 }, { name := "SCOPE_PROTOTYPE", type := (.object "java/lang/String"), accessFlags := 25, slot := 1, constantValue := 0 }, { name := "INNER_BEAN_FINDER", type := (.object "com/example/graft_container/graftcontainer/BeanDefinition$InnerBeanFinder"), accessFlags := 26, slot := 2, constantValue := 0 }, { name := "className", type := (.object "java/lang/String"), accessFlags := 2, slot := 0, constantValue := 0 }, { name := "factoryMethodName", type := (.object "java/lang/String"), accessFlags := 2, slot := 1, constantValue := 0 }, { name := "factoryBeanName", type := (.object "java/lang/String"), accessFlags := 2, slot := 2, constantValue := 0 }, { name := "parentName", type := (.object "java/lang/String"), accessFlags := 2, slot := 3, constantValue := 0 }, { name := "abstractDefinition", type := .boolean, accessFlags := 2, slot := 4, constantValue := 0 }, { name := "scope", type := (.object "java/lang/String"), accessFlags := 2, slot := 5, constantValue := 0 }, { name := "singleton", type := .boolean, accessFlags := 2, slot := 6, constantValue := 0 }, { name := "lazyInit", type := .boolean, accessFlags := 2, slot := 7, constantValue := 0 }, { name := "initMethodName", type := (.object "java/lang/String"), accessFlags := 2, slot := 8, constantValue := 0 }, { name := "initMethodRequired", type := .boolean, accessFlags := 2, slot := 9, constantValue := 0 }, { name := "initMethodGiven", type := .boolean, accessFlags := 2, slot := 10, constantValue := 0 }, { name := "destroyMethodName", type := (.object "java/lang/String"), accessFlags := 2, slot := 11, constantValue := 0 }, { name := "destroyMethodRequired", type := .boolean, accessFlags := 2, slot := 12, constantValue := 0 }, { name := "destroyMethodGiven", type := .boolean, accessFlags := 2, slot := 13, constantValue := 0 }, { name := "dependsOn", type := (.object "java/util/List"), accessFlags := 18, slot := 14, constantValue := 0 }, { name := "primary", type := .boolean, accessFlags := 2, slot := 15, constantValue := 0 }, { name := "autowireCandidate", type := .boolean, accessFlags := 2, slot := 16, constantValue := 0 }, { name := "autowireMode", type := (.object "com/example/graft_container/graftcontainer/BeanDefinition$Autowire"), accessFlags := 2, slot := 17, constantValue := 0 }, { name := "qualifiers", type := (.object "java/util/Map"), accessFlags := 18, slot := 18, constantValue := 0 }, { name := "propertyValues", type := (.object "java/util/List"), accessFlags := 18, slot := 19, constantValue := 0 }, { name := "constructorArguments", type := (.object "java/util/List"), accessFlags := 18, slot := 20, constantValue := 0 }, { name := "dependsOnView", type := (.object "java/util/List"), accessFlags := 18, slot := 21, constantValue := 0 }, { name := "qualifiersView", type := (.object "java/util/Map"), accessFlags := 18, slot := 22, constantValue := 0 }, { name := "propertyValuesView", type := (.object "java/util/List"), accessFlags := 18, slot := 23, constantValue := 0 }, { name := "constructorArgumentsView", type := (.object "java/util/List"), accessFlags := 18, slot := 24, constantValue := 0 }, { name := "frozen", type := .boolean, accessFlags := 66, slot := 25, constantValue := 0 }, { name := "changeListeners", type := (.object "java/util/List"), accessFlags := 2, slot := 26, constantValue := 0 }, { name := "outers", type := (.object "java/util/List"), accessFlags := 2, slot := 27, constantValue := 0 }]
  methods := #[k9m0, k9m1, k9m2, k9m3, k9m4, k9m5, k9m6, k9m7, k9m8]
  instanceTypes := #[(.object "java/lang/String"), (.object "java/lang/String"), (.object "java/lang/String"), (.object "java/lang/String"), .boolean, (.object "java/lang/String"), .boolean, .boolean, (.object "java/lang/String"), .boolean, .boolean, (.object "java/lang/String"), .boolean, .boolean, (.object "java/util/List"), .boolean, .boolean, (.object "com/example/graft_container/graftcontainer/BeanDefinition$Autowire"), (.object "java/util/Map"), (.object "java/util/List"), (.object "java/util/List"), (.object "java/util/List"), (.object "java/util/Map"), (.object "java/util/List"), (.object "java/util/List"), .boolean, (.object "java/util/List"), (.object "java/util/List")]
  staticTypes := #[(.object "java/lang/String"), (.object "java/lang/String"), (.object "com/example/graft_container/graftcontainer/BeanDefinition$InnerBeanFinder")]
  resolved := Array.replicate 505 none
  statics := none }

def pool10 : Array CpInfo := pool [(8, .class_ 10), (1, u "java/lang/Iterable"), (24, .class_ 36), (0, u "java/lang/Object")] 25

/-- java/lang/Iterable -/
def k10 : Class := { plain "java/lang/Iterable" (some 0) with
  accessFlags := 1537
  interfaces := #[]
  cf := some (fileOf pool10 8 #[] #[] 1537 35 #[] #[])
  fields := #[]
  methods := #[]
  instanceTypes := #[]
  staticTypes := #[]
  resolved := Array.replicate 62 none
  statics := none }

def pool11 : Array CpInfo := pool [(10, .class_ 12), (1, u "java/util/Collection"), (47, .class_ 61), (0, u "java/lang/Object"), (0, .class_ 63), (0, u "java/lang/Iterable")] 51

/-- java/util/Collection -/
def k11 : Class := { plain "java/util/Collection" (some 0) with
  accessFlags := 1537
  interfaces := #[10]
  cf := some (fileOf pool11 10 #[] #[] 1537 60 #[62] #[])
  fields := #[]
  methods := #[]
  instanceTypes := #[]
  staticTypes := #[]
  resolved := Array.replicate 115 none
  statics := none }

def pool12 : Array CpInfo := pool [(1, .methodref 2 3), (0, .class_ 4), (0, .nameAndType 5 6), (0, u "java/lang/Object"), (0, u "<init>"), (0, u "()V"), (1, .class_ 10), (1, u "java/util/AbstractCollection"), (0, u "size"), (0, u "()I"), (64, .class_ 78), (0, u "java/util/Collection")] 81

def k12c0 : Code := { maxStack := 1, maxLocals := 1, code := jdk_22_method_1_code, exceptionTable := #[], attributes := #[] }
def k12m0 : Method := { name := "<init>", desc := "()V", sig := { parameters := [], returnType := none }, accessFlags := 4, code := some k12c0 }
def k12m1 : Method := { name := "size", desc := "()I", sig := { parameters := [], returnType := some .int }, accessFlags := 1025, code := none }
/-- java/util/AbstractCollection -/
def k12 : Class := { plain "java/util/AbstractCollection" (some 0) with
  accessFlags := 1057
  interfaces := #[11]
  cf := some (fileOf pool12 8 #[] #[{ accessFlags := 4, nameIndex := 5, descriptorIndex := 6, attributes := #[] }, { accessFlags := 1025, nameIndex := 11, descriptorIndex := 12, attributes := #[] }] 1057 2 #[77] #[])
  fields := #[]
  methods := #[k12m0, k12m1]
  instanceTypes := #[]
  staticTypes := #[]
  resolved := Array.replicate 160 none
  statics := none }

def pool13 : Array CpInfo := pool [(8, .class_ 10), (1, u "java/util/SequencedCollection"), (15, .class_ 27), (0, u "java/lang/Object"), (0, .class_ 29), (0, u "java/util/Collection")] 27

/-- java/util/SequencedCollection -/
def k13 : Class := { plain "java/util/SequencedCollection" (some 0) with
  accessFlags := 1537
  interfaces := #[11]
  cf := some (fileOf pool13 8 #[] #[] 1537 26 #[28] #[])
  fields := #[]
  methods := #[]
  instanceTypes := #[]
  staticTypes := #[]
  resolved := Array.replicate 57 none
  statics := none }

def pool14 : Array CpInfo := pool [(8, .class_ 10), (1, u "java/util/List"), (68, u "size"), (0, u "()I"), (7, u "of"), (1, .fieldref 91 92), (0, .class_ 93), (0, .nameAndType 94 95), (0, u "java/util/ImmutableCollections"), (0, u "EMPTY_LIST"), (0, u "Ljava/util/ImmutableCollections$ListN;"), (7, .class_ 104), (0, u "java/lang/Object"), (14, u "()Ljava/util/List;"), (0, .class_ 121), (0, u "java/util/SequencedCollection"), (1, u "iterator"), (0, u "()Ljava/util/Iterator;")] 126

def k14m0 : Method := { name := "size", desc := "()I", sig := { parameters := [], returnType := some .int }, accessFlags := 1025, code := none }
def k14m1 : Method := { name := "iterator", desc := "()Ljava/util/Iterator;", sig := { parameters := [], returnType := some (.object "java/util/Iterator") }, accessFlags := 1025, code := none }
def k14c2 : Code := { maxStack := 1, maxLocals := 0, code := jdk_40_method_36_code, exceptionTable := #[], attributes := #[] }
def k14m2 : Method := { name := "of", desc := "()Ljava/util/List;", sig := { parameters := [], returnType := some (.object "java/util/List") }, accessFlags := 9, code := some k14c2 }
/-- java/util/List -/
def k14 : Class := { plain "java/util/List" (some 0) with
  accessFlags := 1537
  interfaces := #[13]
  cf := some (fileOf pool14 8 #[] #[{ accessFlags := 1025, nameIndex := 79, descriptorIndex := 80, attributes := #[] }, { accessFlags := 1025, nameIndex := 123, descriptorIndex := 124, attributes := #[] }, { accessFlags := 9, nameIndex := 88, descriptorIndex := 119, attributes := #[] }] 1537 103 #[120] #[])
  fields := #[]
  methods := #[k14m0, k14m1, k14m2]
  instanceTypes := #[]
  staticTypes := #[]
  resolved := Array.replicate 251 none
  statics := none }

def pool15 : Array CpInfo := pool [(1, .methodref 2 3), (0, .class_ 4), (0, .nameAndType 5 6), (0, u "java/util/AbstractCollection"), (0, u "<init>"), (0, u "()V"), (0, .fieldref 8 9), (0, .class_ 10), (0, .nameAndType 11 12), (0, u "java/util/AbstractList"), (0, u "modCount"), (0, u "I"), (64, .class_ 78), (0, u "java/util/AbstractList$Itr"), (3, .class_ 83), (0, u "java/util/AbstractList$ListItr"), (9, .class_ 94), (0, u "java/util/AbstractList$RandomAccessSubList"), (3, .class_ 99), (0, u "java/util/AbstractList$SubList"), (33, .class_ 134), (0, u "java/util/List"), (73, .class_ 209), (0, u "java/util/AbstractList$SubList$1"), (0, .class_ 211), (0, u "java/util/AbstractList$RandomAccessSpliterator")] 6

def k15c0 : Code := { maxStack := 2, maxLocals := 1, code := jdk_39_method_1_code, exceptionTable := #[], attributes := #[] }
def k15m0 : Method := { name := "<init>", desc := "()V", sig := { parameters := [], returnType := none }, accessFlags := 4, code := some k15c0 }
/-- java/util/AbstractList -/
def k15 : Class := { plain "java/util/AbstractList" (some 12) with
  accessFlags := 1057
  interfaces := #[14]
  cf := some (fileOf pool15 8 #[.nestMembers #[93, 98, 208, 210, 82, 77]] #[{ accessFlags := 4, nameIndex := 5, descriptorIndex := 6, attributes := #[] }] 1057 2 #[133] #[{ accessFlags := 132, nameIndex := 11, descriptorIndex := 12, attributes := #[] }])
  fields := #[{ name := "modCount", type := .int, accessFlags := 132, slot := 0, constantValue := 0 }]
  methods := #[k15m0]
  instanceTypes := #[.int]
  staticTypes := #[]
  resolved := Array.replicate 218 none
  statics := none }

def pool16 : Array CpInfo := pool [(1, .class_ 2), (0, u "java/util/RandomAccess"), (0, .class_ 4), (0, u "java/lang/Object")] 2

/-- java/util/RandomAccess -/
def k16 : Class := { plain "java/util/RandomAccess" (some 0) with
  accessFlags := 1537
  interfaces := #[]
  cf := some (fileOf pool16 1 #[] #[] 1537 3 #[] #[])
  fields := #[]
  methods := #[]
  instanceTypes := #[]
  staticTypes := #[]
  resolved := Array.replicate 7 none
  statics := none }

def pool17 : Array CpInfo := pool [(1, .class_ 2), (0, u "java/lang/Cloneable"), (0, .class_ 4), (0, u "java/lang/Object")] 2

/-- java/lang/Cloneable -/
def k17 : Class := { plain "java/lang/Cloneable" (some 0) with
  accessFlags := 1537
  interfaces := #[]
  cf := some (fileOf pool17 1 #[] #[] 1537 3 #[] #[])
  fields := #[]
  methods := #[]
  instanceTypes := #[]
  staticTypes := #[]
  resolved := Array.replicate 7 none
  statics := none }

def pool18 : Array CpInfo := pool [(1, .methodref 2 3), (0, .class_ 4), (0, .nameAndType 5 6), (0, u "java/util/AbstractList"), (0, u "<init>"), (0, u "()V"), (2, .fieldref 10 11), (0, .class_ 12), (0, .nameAndType 13 14), (0, u "java/util/ArrayList"), (0, u "elementData"), (0, u "[Ljava/lang/Object;"), (2, u "EMPTY_ELEMENTDATA"), (21, .fieldref 10 40), (0, .nameAndType 41 14), (0, u "DEFAULTCAPACITY_EMPTY_ELEMENTDATA"), (8, u "size"), (0, u "I"), (96, .class_ 149), (0, u "java/util/List"), (112, .class_ 263), (0, u "java/util/ArrayList$ListItr"), (3, .class_ 268), (0, u "java/util/ArrayList$Itr"), (7, .class_ 277), (0, u "java/util/ArrayList$SubList"), (12, .class_ 291), (0, u "java/util/ArrayList$ArrayListSpliterator"), (37, .class_ 330), (0, u "java/util/RandomAccess"), (0, .class_ 332), (0, u "java/lang/Cloneable"), (0, .class_ 334), (0, u "java/io/Serializable"), (0, u "serialVersionUID"), (0, u "J"), (3, u "DEFAULT_CAPACITY"), (159, .class_ 501), (0, u "java/util/ArrayList$SubList$2"), (0, .class_ 503), (0, u "java/util/ArrayList$SubList$1")] 5

def k18c0 : Code := { maxStack := 2, maxLocals := 1, code := jdk_38_method_2_code, exceptionTable := #[], attributes := #[] }
def k18m0 : Method := { name := "<init>", desc := "()V", sig := { parameters := [], returnType := none }, accessFlags := 1, code := some k18c0 }
/-- java/util/ArrayList -/
def k18 : Class := { plain "java/util/ArrayList" (some 15) with
  accessFlags := 33
  interfaces := #[14, 16, 17, 2]
  cf := some (fileOf pool18 10 #[.nestMembers #[290, 276, 500, 502, 262, 267]] #[{ accessFlags := 1, nameIndex := 5, descriptorIndex := 6, attributes := #[] }] 33 2 #[148, 329, 331, 333] #[{ accessFlags := 26, nameIndex := 335, descriptorIndex := 336, attributes := #[] }, { accessFlags := 26, nameIndex := 340, descriptorIndex := 51, attributes := #[] }, { accessFlags := 26, nameIndex := 17, descriptorIndex := 14, attributes := #[] }, { accessFlags := 26, nameIndex := 41, descriptorIndex := 14, attributes := #[] }, { accessFlags := 128, nameIndex := 13, descriptorIndex := 14, attributes := #[] }, { accessFlags := 2, nameIndex := 50, descriptorIndex := 51, attributes := #[] }])
  fields := #[{ name := "serialVersionUID", type := .long, accessFlags := 26, slot := 0, constantValue := 0 }, { name := "DEFAULT_CAPACITY", type := .int, accessFlags := 26, slot := 1, constantValue := 0 }, { name := "EMPTY_ELEMENTDATA", type := (.array (.object "java/lang/Object")), accessFlags := 26, slot := 2, constantValue := 0 }, { name := "DEFAULTCAPACITY_EMPTY_ELEMENTDATA", type := (.array (.object "java/lang/Object")), accessFlags := 26, slot := 3, constantValue := 0 }, { name := "elementData", type := (.array (.object "java/lang/Object")), accessFlags := 128, slot := 1, constantValue := 0 }, { name := "size", type := .int, accessFlags := 2, slot := 2, constantValue := 0 }]
  methods := #[k18m0]
  instanceTypes := #[.int, (.array (.object "java/lang/Object")), .int]
  staticTypes := #[.long, .int, (.array (.object "java/lang/Object")), (.array (.object "java/lang/Object"))]
  resolved := Array.replicate 509 none
  mirror := some 6
  statics := some 1 }

def pool19 : Array CpInfo := pool [(2, .class_ 4), (1, u "java/lang/Enum"), (0, u "name"), (0, u "Ljava/lang/String;"), (2, u "ordinal"), (0, u "I"), (1, .class_ 14), (1, u "java/lang/Object"), (4, u "hash"), (86, .class_ 108), (1, u "java/lang/Enum$EnumDesc"), (2, .class_ 112), (0, u "java/lang/constant/Constable"), (0, .class_ 114), (0, u "java/lang/Comparable"), (0, .class_ 116), (0, u "java/io/Serializable")] 87

/-- java/lang/Enum -/
def k19 : Class := { plain "java/lang/Enum" (some 0) with
  accessFlags := 1057
  interfaces := #[5, 3, 2]
  cf := some (fileOf pool19 2 #[.nestMembers #[106]] #[] 1057 12 #[111, 113, 115] #[{ accessFlags := 18, nameIndex := 5, descriptorIndex := 6, attributes := #[] }, { accessFlags := 18, nameIndex := 9, descriptorIndex := 10, attributes := #[] }, { accessFlags := 2, nameIndex := 19, descriptorIndex := 10, attributes := #[] }])
  fields := #[{ name := "name", type := (.object "java/lang/String"), accessFlags := 18, slot := 0, constantValue := 0 }, { name := "ordinal", type := .int, accessFlags := 18, slot := 1, constantValue := 0 }, { name := "hash", type := .int, accessFlags := 2, slot := 2, constantValue := 0 }]
  methods := #[]
  instanceTypes := #[(.object "java/lang/String"), .int, .int]
  staticTypes := #[]
  resolved := Array.replicate 204 none
  statics := none }

def pool20 : Array CpInfo := pool [(1, .class_ 2), (0, u "com/example/graft_container/graftcontainer/BeanDefinition$Autowire"), (2, u "NO"), (0, u "Lcom/example/graft_container/graftcontainer/BeanDefinition$Autowire;"), (2, u "BY_NAME"), (2, u "BY_TYPE"), (2, u "CONSTRUCTOR"), (2, u "$VALUES"), (0, u "[Lcom/example/graft_container/graftcontainer/BeanDefinition$Autowire;"), (6, .class_ 28), (1, u "java/lang/Enum"), (27, .class_ 57), (0, u "com/example/graft_container/graftcontainer/BeanDefinition")] 2

/-- com/example/graft_container/graftcontainer/BeanDefinition$Autowire -/
def k20 : Class := { plain "com/example/graft_container/graftcontainer/BeanDefinition$Autowire" (some 19) with
  accessFlags := 16433
  interfaces := #[]
  cf := some (fileOf pool20 1 #[.nestHost 56] #[] 16433 26 #[] #[{ accessFlags := 16409, nameIndex := 5, descriptorIndex := 6, attributes := #[] }, { accessFlags := 16409, nameIndex := 9, descriptorIndex := 6, attributes := #[] }, { accessFlags := 16409, nameIndex := 12, descriptorIndex := 6, attributes := #[] }, { accessFlags := 16409, nameIndex := 15, descriptorIndex := 6, attributes := #[] }, { accessFlags := 4122, nameIndex := 18, descriptorIndex := 19, attributes := #[] }])
  fields := #[{ name := "NO", type := (.object "com/example/graft_container/graftcontainer/BeanDefinition$Autowire"), accessFlags := 16409, slot := 0, constantValue := 0 }, { name := "BY_NAME", type := (.object "com/example/graft_container/graftcontainer/BeanDefinition$Autowire"), accessFlags := 16409, slot := 1, constantValue := 0 }, { name := "BY_TYPE", type := (.object "com/example/graft_container/graftcontainer/BeanDefinition$Autowire"), accessFlags := 16409, slot := 2, constantValue := 0 }, { name := "CONSTRUCTOR", type := (.object "com/example/graft_container/graftcontainer/BeanDefinition$Autowire"), accessFlags := 16409, slot := 3, constantValue := 0 }, { name := "$VALUES", type := (.array (.object "com/example/graft_container/graftcontainer/BeanDefinition$Autowire")), accessFlags := 4122, slot := 4, constantValue := 0 }]
  methods := #[]
  instanceTypes := #[(.object "java/lang/String"), .int, .int]
  staticTypes := #[(.object "com/example/graft_container/graftcontainer/BeanDefinition$Autowire"), (.object "com/example/graft_container/graftcontainer/BeanDefinition$Autowire"), (.object "com/example/graft_container/graftcontainer/BeanDefinition$Autowire"), (.object "com/example/graft_container/graftcontainer/BeanDefinition$Autowire"), (.array (.object "com/example/graft_container/graftcontainer/BeanDefinition$Autowire"))]
  resolved := Array.replicate 60 none
  statics := some 2 }

def pool21 : Array CpInfo := pool [(2, .class_ 4), (1, u "java/util/Map"), (31, .class_ 37), (0, u "java/util/Map$Entry"), (55, .class_ 94), (0, u "java/lang/Object")] 168

/-- java/util/Map -/
def k21 : Class := { plain "java/util/Map" (some 0) with
  accessFlags := 1537
  interfaces := #[]
  cf := some (fileOf pool21 2 #[.nestMembers #[36]] #[] 1537 93 #[] #[])
  fields := #[]
  methods := #[]
  instanceTypes := #[]
  staticTypes := #[]
  resolved := Array.replicate 263 none
  statics := none }

def pool22 : Array CpInfo := pool [(1, .methodref 2 3), (0, .class_ 4), (0, .nameAndType 5 6), (0, u "java/lang/Object"), (0, u "<init>"), (0, u "()V"), (1, .class_ 10), (1, u "java/util/AbstractMap"), (42, .class_ 54), (0, u "java/util/Map"), (9, u "keySet"), (0, u "Ljava/util/Set;"), (0, .class_ 67), (0, u "java/util/AbstractMap$1"), (5, u "values"), (0, u "Ljava/util/Collection;"), (0, .class_ 76), (0, u "java/util/AbstractMap$2"), (104, .class_ 182), (0, u "java/util/AbstractMap$ViewCollection"), (0, .class_ 184), (0, u "java/util/AbstractMap$SimpleImmutableEntry"), (0, .class_ 186), (0, u "java/util/AbstractMap$SimpleEntry"), (0, .class_ 188), (0, u "java/util/AbstractMap$2$1"), (0, .class_ 190), (0, u "java/util/AbstractMap$1$1")] 5

def k22c0 : Code := { maxStack := 1, maxLocals := 1, code := jdk_71_method_1_code, exceptionTable := #[], attributes := #[] }
def k22m0 : Method := { name := "<init>", desc := "()V", sig := { parameters := [], returnType := none }, accessFlags := 4, code := some k22c0 }
/-- java/util/AbstractMap -/
def k22 : Class := { plain "java/util/AbstractMap" (some 0) with
  accessFlags := 1057
  interfaces := #[21]
  cf := some (fileOf pool22 8 #[.nestMembers #[181, 183, 185, 75, 187, 66, 189]] #[{ accessFlags := 4, nameIndex := 5, descriptorIndex := 6, attributes := #[] }] 1057 2 #[53] #[{ accessFlags := 128, nameIndex := 64, descriptorIndex := 65, attributes := #[] }, { accessFlags := 128, nameIndex := 73, descriptorIndex := 74, attributes := #[] }])
  fields := #[{ name := "keySet", type := (.object "java/util/Set"), accessFlags := 128, slot := 0, constantValue := 0 }, { name := "values", type := (.object "java/util/Collection"), accessFlags := 128, slot := 1, constantValue := 0 }]
  methods := #[k22m0]
  instanceTypes := #[(.object "java/util/Set"), (.object "java/util/Collection")]
  staticTypes := #[]
  resolved := Array.replicate 196 none
  statics := none }

def pool23 : Array CpInfo := pool [(40, .class_ 41), (0, u "java/util/HashMap"), (1, .methodref 44 45), (0, .class_ 46), (0, .nameAndType 47 48), (0, u "java/util/AbstractMap"), (0, u "<init>"), (0, u "()V"), (32, .fieldref 40 82), (0, .nameAndType 83 84), (0, u "loadFactor"), (0, u "F"), (5, u "threshold"), (0, u "I"), (0, .float 1061158912), (8, .class_ 103), (1, u "java/util/Map"), (0, u "size"), (2, u "table"), (0, u "[Ljava/util/HashMap$Node;"), (14, u "entrySet"), (39, .class_ 165), (1, u "java/util/HashMap$Node"), (14, .class_ 181), (0, u "java/util/HashMap$TreeNode"), (22, u "modCount"), (37, u "Ljava/util/Set;"), (0, .class_ 244), (0, u "java/util/HashMap$KeySet"), (18, .class_ 264), (0, u "java/util/HashMap$Values"), (3, .class_ 269), (0, u "java/util/HashMap$EntrySet"), (76, .class_ 348), (1, u "java/util/HashMap$UnsafeHolder"), (43, .class_ 393), (0, u "java/lang/Cloneable"), (0, .class_ 395), (0, u "java/io/Serializable"), (0, u "serialVersionUID"), (0, u "J"), (3, u "DEFAULT_INITIAL_CAPACITY"), (1, u "MAXIMUM_CAPACITY"), (0, u "DEFAULT_LOAD_FACTOR"), (0, u "TREEIFY_THRESHOLD"), (1, u "UNTREEIFY_THRESHOLD"), (1, u "MIN_TREEIFY_CAPACITY"), (186, .class_ 597), (0, u "java/util/HashMap$EntrySpliterator"), (0, .class_ 599), (0, u "java/util/HashMap$ValueSpliterator"), (0, .class_ 601), (0, u "java/util/HashMap$KeySpliterator"), (0, .class_ 603), (0, u "java/util/HashMap$HashMapSpliterator"), (0, .class_ 605), (0, u "java/util/HashMap$EntryIterator"), (0, .class_ 607), (0, u "java/util/HashMap$ValueIterator"), (0, .class_ 609), (0, u "java/util/HashMap$KeyIterator"), (0, .class_ 611), (0, u "java/util/HashMap$HashIterator")] 17

def k23c0 : Code := { maxStack := 2, maxLocals := 1, code := jdk_69_method_7_code, exceptionTable := #[], attributes := #[] }
def k23m0 : Method := { name := "<init>", desc := "()V", sig := { parameters := [], returnType := none }, accessFlags := 1, code := some k23c0 }
/-- java/util/HashMap -/
def k23 : Class := { plain "java/util/HashMap" (some 22) with
  accessFlags := 33
  interfaces := #[21, 17, 2]
  cf := some (fileOf pool23 40 #[.nestMembers #[180, 596, 598, 600, 602, 604, 606, 608, 610, 346, 268, 263, 243, 163]] #[{ accessFlags := 1, nameIndex := 47, descriptorIndex := 48, attributes := #[] }] 33 44 #[101, 392, 394] #[{ accessFlags := 26, nameIndex := 396, descriptorIndex := 397, attributes := #[] }, { accessFlags := 24, nameIndex := 401, descriptorIndex := 91, attributes := #[] }, { accessFlags := 24, nameIndex := 403, descriptorIndex := 91, attributes := #[] }, { accessFlags := 24, nameIndex := 404, descriptorIndex := 84, attributes := #[] }, { accessFlags := 24, nameIndex := 405, descriptorIndex := 91, attributes := #[] }, { accessFlags := 24, nameIndex := 407, descriptorIndex := 91, attributes := #[] }, { accessFlags := 24, nameIndex := 409, descriptorIndex := 91, attributes := #[] }, { accessFlags := 128, nameIndex := 107, descriptorIndex := 108, attributes := #[] }, { accessFlags := 128, nameIndex := 123, descriptorIndex := 242, attributes := #[] }, { accessFlags := 128, nameIndex := 104, descriptorIndex := 91, attributes := #[] }, { accessFlags := 128, nameIndex := 204, descriptorIndex := 91, attributes := #[] }, { accessFlags := 0, nameIndex := 90, descriptorIndex := 91, attributes := #[] }, { accessFlags := 16, nameIndex := 83, descriptorIndex := 84, attributes := #[] }])
  fields := #[{ name := "serialVersionUID", type := .long, accessFlags := 26, slot := 0, constantValue := 0 }, { name := "DEFAULT_INITIAL_CAPACITY", type := .int, accessFlags := 24, slot := 1, constantValue := 0 }, { name := "MAXIMUM_CAPACITY", type := .int, accessFlags := 24, slot := 2, constantValue := 0 }, { name := "DEFAULT_LOAD_FACTOR", type := .float, accessFlags := 24, slot := 3, constantValue := 0 }, { name := "TREEIFY_THRESHOLD", type := .int, accessFlags := 24, slot := 4, constantValue := 0 }, { name := "UNTREEIFY_THRESHOLD", type := .int, accessFlags := 24, slot := 5, constantValue := 0 }, { name := "MIN_TREEIFY_CAPACITY", type := .int, accessFlags := 24, slot := 6, constantValue := 0 }, { name := "table", type := (.array (.object "java/util/HashMap$Node")), accessFlags := 128, slot := 2, constantValue := 0 }, { name := "entrySet", type := (.object "java/util/Set"), accessFlags := 128, slot := 3, constantValue := 0 }, { name := "size", type := .int, accessFlags := 128, slot := 4, constantValue := 0 }, { name := "modCount", type := .int, accessFlags := 128, slot := 5, constantValue := 0 }, { name := "threshold", type := .int, accessFlags := 0, slot := 6, constantValue := 0 }, { name := "loadFactor", type := .float, accessFlags := 16, slot := 7, constantValue := 0 }]
  methods := #[k23m0]
  instanceTypes := #[(.object "java/util/Set"), (.object "java/util/Collection"), (.array (.object "java/util/HashMap$Node")), (.object "java/util/Set"), .int, .int, .int, .float]
  staticTypes := #[.long, .int, .int, .float, .int, .int, .int]
  resolved := Array.replicate 629 none
  statics := none }

def pool24 : Array CpInfo := pool [(2, .class_ 4), (1, u "java/util/SequencedMap"), (38, .class_ 44), (0, u "java/util/SequencedMap$1SeqKeySet"), (3, .class_ 49), (0, u "java/util/SequencedMap$1SeqValues"), (1, .class_ 52), (0, u "java/util/SequencedMap$1SeqEntrySet"), (1, .class_ 55), (0, u "java/lang/Object"), (0, .class_ 57), (0, u "java/util/Map")] 48

/-- java/util/SequencedMap -/
def k24 : Class := { plain "java/util/SequencedMap" (some 0) with
  accessFlags := 1537
  interfaces := #[21]
  cf := some (fileOf pool24 2 #[.nestMembers #[51, 48, 43]] #[] 1537 54 #[56] #[])
  fields := #[]
  methods := #[]
  instanceTypes := #[]
  staticTypes := #[]
  resolved := Array.replicate 106 none
  statics := none }

def pool25 : Array CpInfo := pool [(1, .fieldref 2 3), (0, .class_ 4), (0, .nameAndType 5 6), (0, u "java/util/LinkedHashMap"), (0, u "putMode"), (0, u "I"), (2, u "head"), (0, u "Ljava/util/LinkedHashMap$Entry;"), (2, u "tail"), (1, .class_ 17), (1, u "java/util/LinkedHashMap$Entry"), (5, .class_ 25), (1, u "java/util/HashMap"), (1, u "()V"), (2, u "<init>"), (33, .fieldref 2 65), (0, .nameAndType 66 67), (0, u "accessOrder"), (0, u "Z"), (19, .methodref 23 88), (0, .nameAndType 30 27), (32, .class_ 122), (0, u "java/util/LinkedHashMap$LinkedKeySet"), (20, .class_ 144), (0, u "java/util/LinkedHashMap$LinkedValues"), (9, .class_ 155), (0, u "java/util/LinkedHashMap$LinkedEntrySet"), (44, .class_ 201), (0, u "java/util/LinkedHashMap$ReversedLinkedHashMapView"), (3, .class_ 206), (0, u "java/util/SequencedMap"), (0, u "serialVersionUID"), (0, u "J"), (5, u "PUT_NORM"), (1, u "PUT_FIRST"), (1, u "PUT_LAST"), (143, .class_ 363), (0, u "java/util/LinkedHashMap$LinkedEntryIterator"), (0, .class_ 365), (0, u "java/util/LinkedHashMap$LinkedValueIterator"), (0, .class_ 367), (0, u "java/util/LinkedHashMap$LinkedKeyIterator"), (0, .class_ 369), (0, u "java/util/LinkedHashMap$LinkedHashIterator")] 16

def k25c0 : Code := { maxStack := 2, maxLocals := 1, code := jdk_94_method_16_code, exceptionTable := #[], attributes := #[] }
def k25m0 : Method := { name := "<init>", desc := "()V", sig := { parameters := [], returnType := none }, accessFlags := 1, code := some k25c0 }
/-- java/util/LinkedHashMap -/
def k25 : Class := { plain "java/util/LinkedHashMap" (some 23) with
  accessFlags := 33
  interfaces := #[24]
  cf := some (fileOf pool25 2 #[.nestMembers #[200, 362, 364, 366, 368, 154, 143, 121, 15]] #[{ accessFlags := 1, nameIndex := 30, descriptorIndex := 27, attributes := #[] }] 33 23 #[205] #[{ accessFlags := 26, nameIndex := 207, descriptorIndex := 208, attributes := #[] }, { accessFlags := 128, nameIndex := 9, descriptorIndex := 10, attributes := #[] }, { accessFlags := 128, nameIndex := 13, descriptorIndex := 10, attributes := #[] }, { accessFlags := 16, nameIndex := 66, descriptorIndex := 67, attributes := #[] }, { accessFlags := 24, nameIndex := 214, descriptorIndex := 6, attributes := #[] }, { accessFlags := 24, nameIndex := 216, descriptorIndex := 6, attributes := #[] }, { accessFlags := 24, nameIndex := 218, descriptorIndex := 6, attributes := #[] }, { accessFlags := 128, nameIndex := 5, descriptorIndex := 6, attributes := #[] }])
  fields := #[{ name := "serialVersionUID", type := .long, accessFlags := 26, slot := 0, constantValue := 0 }, { name := "head", type := (.object "java/util/LinkedHashMap$Entry"), accessFlags := 128, slot := 8, constantValue := 0 }, { name := "tail", type := (.object "java/util/LinkedHashMap$Entry"), accessFlags := 128, slot := 9, constantValue := 0 }, { name := "accessOrder", type := .boolean, accessFlags := 16, slot := 10, constantValue := 0 }, { name := "PUT_NORM", type := .int, accessFlags := 24, slot := 1, constantValue := 0 }, { name := "PUT_FIRST", type := .int, accessFlags := 24, slot := 2, constantValue := 0 }, { name := "PUT_LAST", type := .int, accessFlags := 24, slot := 3, constantValue := 0 }, { name := "putMode", type := .int, accessFlags := 128, slot := 11, constantValue := 0 }]
  methods := #[k25m0]
  instanceTypes := #[(.object "java/util/Set"), (.object "java/util/Collection"), (.array (.object "java/util/HashMap$Node")), (.object "java/util/Set"), .int, .int, .int, .float, (.object "java/util/LinkedHashMap$Entry"), (.object "java/util/LinkedHashMap$Entry"), .boolean, .int]
  staticTypes := #[.long, .int, .int, .int]
  resolved := Array.replicate 386 none
  mirror := some 9
  statics := none }

def pool26 : Array CpInfo := pool [(2, .class_ 4), (1, u "java/lang/Object"), (0, u "<init>"), (0, u "()V"), (1, .class_ 10), (1, u "java/util/List"), (2, .class_ 14), (0, u "java/util/RandomAccess"), (4, .class_ 20), (0, u "java/util/Collections"), (63, u "r"), (0, u "Ljava/util/Random;"), (67, u "(Ljava/util/List;)V"), (9, .nameAndType 164 165), (0, u "getClass"), (0, u "()Ljava/lang/Class;"), (0, .class_ 167), (0, u "java/util/Collections$UnmodifiableCollection"), (6, .class_ 175), (0, u "java/util/Collections$UnmodifiableSequencedCollection"), (6, .class_ 183), (0, u "java/util/Collections$UnmodifiableSet"), (6, .class_ 191), (0, u "java/util/Collections$UnmodifiableSequencedSet"), (6, .class_ 199), (0, u "java/util/Collections$UnmodifiableSortedSet"), (6, .class_ 207), (0, u "java/util/Collections$UnmodifiableNavigableSet"), (3, .interfaceMethodref 8 163), (0, .class_ 213), (0, u "java/util/Collections$UnmodifiableList"), (0, .interfaceMethodref 8 163), (0, .class_ 216), (0, u "java/util/Collections$UnmodifiableRandomAccessList"), (0, .methodref 215 218), (0, .nameAndType 5 153), (1, .interfaceMethodref 221 163), (0, .class_ 222), (0, u "java/util/Map"), (0, .class_ 224), (0, u "java/util/Collections$UnmodifiableMap"), (0, .methodref 223 226), (0, .nameAndType 5 227), (0, u "(Ljava/util/Map;)V"), (3, .class_ 232), (0, u "java/util/Collections$UnmodifiableSequencedMap"), (4, .class_ 238), (0, u "java/util/Collections$UnmodifiableSortedMap"), (6, .class_ 246), (0, u "java/util/Collections$UnmodifiableNavigableMap"), (3, .class_ 251), (0, u "java/util/Collections$SynchronizedCollection"), (4, .class_ 257), (0, u "java/util/Collections$SynchronizedSet"), (4, .class_ 263), (0, u "java/util/Collections$SynchronizedSortedSet"), (1, .class_ 266), (0, u "java/util/Collections$SynchronizedNavigableSet"), (1, .class_ 269), (0, u "java/util/Collections$SynchronizedRandomAccessList"), (1, .class_ 272), (0, u "java/util/Collections$SynchronizedList"), (5, .class_ 279), (0, u "java/util/Collections$SynchronizedMap"), (1, .class_ 282), (0, u "java/util/Collections$SynchronizedSortedMap"), (1, .class_ 285), (0, u "java/util/Collections$SynchronizedNavigableMap"), (1, .class_ 288), (0, u "java/util/Collections$CheckedCollection"), (11, .class_ 301), (0, u "java/util/Collections$CheckedQueue"), (3, .class_ 306), (0, u "java/util/Collections$CheckedSet"), (3, .class_ 311), (0, u "java/util/Collections$CheckedSortedSet"), (3, .class_ 316), (0, u "java/util/Collections$CheckedNavigableSet"), (3, .class_ 321), (0, u "java/util/Collections$CheckedRandomAccessList"), (3, .class_ 326), (0, u "java/util/Collections$CheckedList"), (1, .class_ 329), (0, u "java/util/Collections$CheckedMap"), (3, .class_ 334), (0, u "java/util/Collections$CheckedSortedMap"), (3, .class_ 339), (0, u "java/util/Collections$CheckedNavigableMap"), (4, .class_ 346), (1, u "java/util/Collections$EmptyIterator"), (3, .class_ 352), (1, u "java/util/Collections$EmptyListIterator"), (2, .class_ 357), (1, u "java/util/Collections$EmptyEnumeration"), (4, u "EMPTY_SET"), (0, u "Ljava/util/Set;"), (6, u "EMPTY_LIST"), (0, u "Ljava/util/List;"), (2, u "EMPTY_MAP"), (0, u "Ljava/util/Map;"), (4, .class_ 381), (0, u "java/util/Collections$SingletonSet"), (2, .class_ 385), (0, u "java/util/Collections$1"), (1, .class_ 388), (0, u "java/util/Collections$2"), (1, .class_ 391), (0, u "java/util/Collections$SingletonList"), (1, .class_ 394), (0, u "java/util/Collections$SingletonMap"), (22, .class_ 418), (0, u "java/util/Collections$CopiesList"), (4, .class_ 425), (1, u "java/util/Collections$ReverseComparator"), (8, .class_ 435), (0, u "java/util/Collections$ReverseComparator2"), (6, .class_ 443), (0, u "java/util/Collections$3"), (25, .class_ 470), (0, u "java/util/Collections$SetFromMap"), (2, .class_ 474), (0, u "java/util/Collections$SequencedSetFromMap"), (3, .class_ 479), (0, u "java/util/Collections$AsLIFOQueue"), (11, .class_ 492), (0, u "java/util/Collections$EmptySet"), (1, .class_ 495), (0, u "java/util/Collections$EmptyList"), (1, .class_ 498), (0, u "java/util/Collections$EmptyMap"), (1, u "BINARYSEARCH_THRESHOLD"), (0, u "I"), (2, u "REVERSE_THRESHOLD"), (1, u "SHUFFLE_THRESHOLD"), (1, u "FILL_THRESHOLD"), (1, u "ROTATE_THRESHOLD"), (1, u "COPY_THRESHOLD"), (1, u "REPLACEALL_THRESHOLD"), (1, u "INDEXOFSUBLIST_THRESHOLD"), (129, u "unmodifiableList"), (0, u "(Ljava/util/List;)Ljava/util/List;"), (1, u "unmodifiableMap"), (0, u "(Ljava/util/Map;)Ljava/util/Map;"), (199, .class_ 851), (0, u "java/util/Collections$CheckedMap$CheckedEntrySet"), (0, .class_ 853), (0, u "java/util/Collections$CheckedMap$CheckedEntrySet$CheckedEntry"), (0, .class_ 855), (0, u "java/util/Collections$CheckedMap$CheckedEntrySet$1"), (0, .class_ 857), (0, u "java/util/Collections$CheckedList$1"), (0, .class_ 859), (0, u "java/util/Collections$CheckedCollection$1"), (0, .class_ 861), (0, u "java/util/Collections$UnmodifiableNavigableMap$EmptyNavigableMap"), (0, .class_ 863), (0, u "java/util/Collections$UnmodifiableMap$UnmodifiableEntrySet"), (0, .class_ 865), (0, u "java/util/Collections$UnmodifiableMap$UnmodifiableEntrySet$UnmodifiableEntry"), (0, .class_ 867), (0, u "java/util/Collections$UnmodifiableMap$UnmodifiableEntrySet$UnmodifiableEntrySetSpliterator"), (0, .class_ 869), (0, u "java/util/Collections$UnmodifiableMap$UnmodifiableEntrySet$1"), (0, .class_ 871), (0, u "java/util/Collections$UnmodifiableList$1"), (0, .class_ 873), (0, u "java/util/Collections$UnmodifiableNavigableSet$EmptyNavigableSet"), (0, .class_ 875), (0, u "java/util/Collections$UnmodifiableCollection$1")] 57

def k26m0 : Method := { name := "<init>", desc := "()V", sig := { parameters := [], returnType := none }, accessFlags := 2, code := none }
def k26c1 : Code := { maxStack := 3, maxLocals := 1, code := jdk_79_method_35_code, exceptionTable := #[], attributes := #[] }
def k26m1 : Method := { name := "unmodifiableList", desc := "(Ljava/util/List;)Ljava/util/List;", sig := { parameters := [(.object "java/util/List")], returnType := some (.object "java/util/List") }, accessFlags := 9, code := some k26c1 }
def k26c2 : Code := { maxStack := 3, maxLocals := 1, code := jdk_79_method_36_code, exceptionTable := #[], attributes := #[] }
def k26m2 : Method := { name := "unmodifiableMap", desc := "(Ljava/util/Map;)Ljava/util/Map;", sig := { parameters := [(.object "java/util/Map")], returnType := some (.object "java/util/Map") }, accessFlags := 9, code := some k26c2 }
/-- java/util/Collections -/
def k26 : Class := { plain "java/util/Collections" (some 0) with
  accessFlags := 33
  interfaces := #[]
  cf := some (fileOf pool26 19 #[.nestMembers #[478, 473, 469, 434, 423, 417, 393, 390, 380, 497, 494, 491, 355, 350, 344, 338, 333, 328, 850, 852, 854, 320, 325, 856, 315, 310, 305, 300, 287, 858, 284, 281, 278, 268, 271, 265, 262, 256, 250, 245, 860, 237, 231, 223, 862, 864, 866, 868, 215, 212, 870, 206, 872, 198, 190, 182, 174, 166, 874, 442, 387, 384]] #[{ accessFlags := 2, nameIndex := 5, descriptorIndex := 6, attributes := #[] }, { accessFlags := 9, nameIndex := 646, descriptorIndex := 647, attributes := #[] }, { accessFlags := 9, nameIndex := 649, descriptorIndex := 650, attributes := #[] }] 33 2 #[] #[{ accessFlags := 26, nameIndex := 500, descriptorIndex := 501, attributes := #[] }, { accessFlags := 26, nameIndex := 504, descriptorIndex := 501, attributes := #[] }, { accessFlags := 26, nameIndex := 506, descriptorIndex := 501, attributes := #[] }, { accessFlags := 26, nameIndex := 508, descriptorIndex := 501, attributes := #[] }, { accessFlags := 26, nameIndex := 510, descriptorIndex := 501, attributes := #[] }, { accessFlags := 26, nameIndex := 512, descriptorIndex := 501, attributes := #[] }, { accessFlags := 26, nameIndex := 514, descriptorIndex := 501, attributes := #[] }, { accessFlags := 26, nameIndex := 516, descriptorIndex := 501, attributes := #[] }, { accessFlags := 10, nameIndex := 84, descriptorIndex := 85, attributes := #[] }, { accessFlags := 25, nameIndex := 362, descriptorIndex := 363, attributes := #[] }, { accessFlags := 25, nameIndex := 370, descriptorIndex := 371, attributes := #[] }, { accessFlags := 25, nameIndex := 374, descriptorIndex := 375, attributes := #[] }])
  fields := #[{ name := "BINARYSEARCH_THRESHOLD", type := .int, accessFlags := 26, slot := 0, constantValue := 0 }, { name := "REVERSE_THRESHOLD", type := .int, accessFlags := 26, slot := 1, constantValue := 0 }, { name := "SHUFFLE_THRESHOLD", type := .int, accessFlags := 26, slot := 2, constantValue := 0 }, { name := "FILL_THRESHOLD", type := .int, accessFlags := 26, slot := 3, constantValue := 0 }, { name := "ROTATE_THRESHOLD", type := .int, accessFlags := 26, slot := 4, constantValue := 0 }, { name := "COPY_THRESHOLD", type := .int, accessFlags := 26, slot := 5, constantValue := 0 }, { name := "REPLACEALL_THRESHOLD", type := .int, accessFlags := 26, slot := 6, constantValue := 0 }, { name := "INDEXOFSUBLIST_THRESHOLD", type := .int, accessFlags := 26, slot := 7, constantValue := 0 }, { name := "r", type := (.object "java/util/Random"), accessFlags := 10, slot := 8, constantValue := 0 }, { name := "EMPTY_SET", type := (.object "java/util/Set"), accessFlags := 25, slot := 9, constantValue := 0 }, { name := "EMPTY_LIST", type := (.object "java/util/List"), accessFlags := 25, slot := 10, constantValue := 0 }, { name := "EMPTY_MAP", type := (.object "java/util/Map"), accessFlags := 25, slot := 11, constantValue := 0 }]
  methods := #[k26m0, k26m1, k26m2]
  instanceTypes := #[]
  staticTypes := #[.int, .int, .int, .int, .int, .int, .int, .int, (.object "java/util/Random"), (.object "java/util/Set"), (.object "java/util/List"), (.object "java/util/Map")]
  resolved := Array.replicate 933 none
  statics := none }

def pool27 : Array CpInfo := pool [(1, .methodref 2 3), (0, .class_ 4), (0, .nameAndType 5 6), (0, u "java/lang/Object"), (0, u "<init>"), (0, u "()V"), (3, .fieldref 11 12), (0, .class_ 13), (0, .nameAndType 14 15), (0, u "java/util/Collections$UnmodifiableCollection"), (0, u "c"), (0, u "Ljava/util/Collection;"), (1, .class_ 19), (1, u "java/util/Collection"), (51, .class_ 72), (0, u "java/io/Serializable"), (0, u "serialVersionUID"), (0, u "J"), (5, u "(Ljava/util/Collection;)V"), (51, .class_ 133), (0, u "java/util/Collections")] 2

def k27c0 : Code := { maxStack := 2, maxLocals := 2, code := jdk_119_method_1_code, exceptionTable := #[], attributes := #[] }
def k27m0 : Method := { name := "<init>", desc := "(Ljava/util/Collection;)V", sig := { parameters := [(.object "java/util/Collection")], returnType := none }, accessFlags := 0, code := some k27c0 }
/-- java/util/Collections$UnmodifiableCollection -/
def k27 : Class := { plain "java/util/Collections$UnmodifiableCollection" (some 0) with
  accessFlags := 32
  interfaces := #[11, 2]
  cf := some (fileOf pool27 11 #[.nestHost 132] #[{ accessFlags := 0, nameIndex := 5, descriptorIndex := 80, attributes := #[] }] 32 2 #[17, 71] #[{ accessFlags := 26, nameIndex := 73, descriptorIndex := 74, attributes := #[] }, { accessFlags := 16, nameIndex := 14, descriptorIndex := 15, attributes := #[] }])
  fields := #[{ name := "serialVersionUID", type := .long, accessFlags := 26, slot := 0, constantValue := 0 }, { name := "c", type := (.object "java/util/Collection"), accessFlags := 16, slot := 0, constantValue := 0 }]
  methods := #[k27m0]
  instanceTypes := #[(.object "java/util/Collection")]
  staticTypes := #[.long]
  resolved := Array.replicate 136 none
  statics := none }

def pool28 : Array CpInfo := pool [(1, .methodref 2 3), (0, .class_ 4), (0, .nameAndType 5 6), (0, u "java/util/Collections$UnmodifiableCollection"), (0, u "<init>"), (0, u "(Ljava/util/Collection;)V"), (0, .fieldref 8 9), (0, .class_ 10), (0, .nameAndType 11 12), (0, u "java/util/Collections$UnmodifiableList"), (0, u "list"), (0, u "Ljava/util/List;"), (1, .class_ 16), (1, u "java/util/List"), (37, u "(Ljava/util/List;)V"), (5, u "serialVersionUID"), (0, u "J"), (59, .class_ 122), (0, u "java/util/Collections")] 4

def k28c0 : Code := { maxStack := 2, maxLocals := 2, code := jdk_120_method_1_code, exceptionTable := #[], attributes := #[] }
def k28m0 : Method := { name := "<init>", desc := "(Ljava/util/List;)V", sig := { parameters := [(.object "java/util/List")], returnType := none }, accessFlags := 0, code := some k28c0 }
/-- java/util/Collections$UnmodifiableList -/
def k28 : Class := { plain "java/util/Collections$UnmodifiableList" (some 27) with
  accessFlags := 32
  interfaces := #[14]
  cf := some (fileOf pool28 8 #[.nestHost 121] #[{ accessFlags := 0, nameIndex := 5, descriptorIndex := 54, attributes := #[] }] 32 2 #[14] #[{ accessFlags := 26, nameIndex := 60, descriptorIndex := 61, attributes := #[] }, { accessFlags := 16, nameIndex := 11, descriptorIndex := 12, attributes := #[] }])
  fields := #[{ name := "serialVersionUID", type := .long, accessFlags := 26, slot := 0, constantValue := 0 }, { name := "list", type := (.object "java/util/List"), accessFlags := 16, slot := 1, constantValue := 0 }]
  methods := #[k28m0]
  instanceTypes := #[(.object "java/util/Collection"), (.object "java/util/List")]
  staticTypes := #[.long]
  resolved := Array.replicate 127 none
  mirror := some 7
  statics := none }

def pool29 : Array CpInfo := pool [(1, .methodref 2 3), (0, .class_ 4), (0, .nameAndType 5 6), (0, u "java/util/Collections$UnmodifiableList"), (0, u "<init>"), (0, u "(Ljava/util/List;)V"), (0, .class_ 8), (0, u "java/util/Collections$UnmodifiableRandomAccessList"), (11, .class_ 21), (0, u "java/util/RandomAccess"), (0, u "serialVersionUID"), (0, u "J"), (23, .class_ 48), (0, u "java/util/Collections")] 3

def k29c0 : Code := { maxStack := 2, maxLocals := 2, code := jdk_121_method_1_code, exceptionTable := #[], attributes := #[] }
def k29m0 : Method := { name := "<init>", desc := "(Ljava/util/List;)V", sig := { parameters := [(.object "java/util/List")], returnType := none }, accessFlags := 0, code := some k29c0 }
/-- java/util/Collections$UnmodifiableRandomAccessList -/
def k29 : Class := { plain "java/util/Collections$UnmodifiableRandomAccessList" (some 28) with
  accessFlags := 32
  interfaces := #[16]
  cf := some (fileOf pool29 7 #[.nestHost 47] #[{ accessFlags := 0, nameIndex := 5, descriptorIndex := 6, attributes := #[] }] 32 2 #[20] #[{ accessFlags := 26, nameIndex := 22, descriptorIndex := 23, attributes := #[] }])
  fields := #[{ name := "serialVersionUID", type := .long, accessFlags := 26, slot := 0, constantValue := 0 }]
  methods := #[k29m0]
  instanceTypes := #[(.object "java/util/Collection"), (.object "java/util/List")]
  staticTypes := #[.long]
  resolved := Array.replicate 52 none
  mirror := some 8
  statics := none }

def pool30 : Array CpInfo := pool [(1, .methodref 2 3), (0, .class_ 4), (0, .nameAndType 5 6), (0, u "java/lang/Object"), (0, u "<init>"), (0, u "()V"), (3, .fieldref 11 12), (0, .class_ 13), (0, .nameAndType 14 15), (0, u "java/util/Collections$UnmodifiableMap"), (0, u "m"), (0, u "Ljava/util/Map;"), (1, .class_ 19), (1, u "java/util/Map"), (22, u "keySet"), (0, u "Ljava/util/Set;"), (4, .class_ 50), (1, u "java/util/Collections"), (4, u "entrySet"), (9, u "values"), (0, u "Ljava/util/Collection;"), (25, .class_ 93), (0, u "java/io/Serializable"), (0, u "serialVersionUID"), (0, u "J"), (8, u "(Ljava/util/Map;)V")] 70

def k30c0 : Code := { maxStack := 2, maxLocals := 2, code := jdk_2500_method_1_code, exceptionTable := #[], attributes := #[] }
def k30m0 : Method := { name := "<init>", desc := "(Ljava/util/Map;)V", sig := { parameters := [(.object "java/util/Map")], returnType := none }, accessFlags := 0, code := some k30c0 }
/-- java/util/Collections$UnmodifiableMap -/
def k30 : Class := { plain "java/util/Collections$UnmodifiableMap" (some 0) with
  accessFlags := 32
  interfaces := #[21, 2]
  cf := some (fileOf pool30 11 #[.nestHost 48] #[{ accessFlags := 0, nameIndex := 5, descriptorIndex := 104, attributes := #[] }] 32 2 #[17, 92] #[{ accessFlags := 26, nameIndex := 94, descriptorIndex := 95, attributes := #[] }, { accessFlags := 16, nameIndex := 14, descriptorIndex := 15, attributes := #[] }, { accessFlags := 130, nameIndex := 42, descriptorIndex := 43, attributes := #[] }, { accessFlags := 130, nameIndex := 55, descriptorIndex := 43, attributes := #[] }, { accessFlags := 130, nameIndex := 65, descriptorIndex := 66, attributes := #[] }])
  fields := #[{ name := "serialVersionUID", type := .long, accessFlags := 26, slot := 0, constantValue := 0 }, { name := "m", type := (.object "java/util/Map"), accessFlags := 16, slot := 0, constantValue := 0 }, { name := "keySet", type := (.object "java/util/Set"), accessFlags := 130, slot := 1, constantValue := 0 }, { name := "entrySet", type := (.object "java/util/Set"), accessFlags := 130, slot := 2, constantValue := 0 }, { name := "values", type := (.object "java/util/Collection"), accessFlags := 130, slot := 3, constantValue := 0 }]
  methods := #[k30m0]
  instanceTypes := #[(.object "java/util/Map"), (.object "java/util/Set"), (.object "java/util/Set"), (.object "java/util/Collection")]
  staticTypes := #[.long]
  resolved := Array.replicate 175 none
  mirror := some 10
  statics := none }

def pool31 : Array CpInfo := pool [(2, .class_ 4), (1, u "java/lang/Object"), (0, u "<init>"), (0, u "()V"), (3, .class_ 11), (0, u "java/util/ImmutableCollections$List12"), (0, .class_ 13), (0, u "java/util/ImmutableCollections$ListN"), (3, u "Z"), (29, .class_ 49), (1, u "java/util/ImmutableCollections"), (0, u "$assertionsDisabled"), (5, u "[Ljava/lang/Object;"), (5, u "EMPTY_LIST"), (0, u "Ljava/util/ImmutableCollections$ListN;"), (8, u "EMPTY_LIST_NULLS"), (22, u "SALT32L"), (0, u "J"), (2, u "REVERSE"), (6, u "archivedObjects"), (2, u "EMPTY"), (0, u "Ljava/lang/Object;"), (0, .class_ 112), (0, u "java/util/ImmutableCollections$SetN"), (5, u "EMPTY_SET"), (0, u "Ljava/util/ImmutableCollections$SetN;"), (0, .class_ 121), (0, u "java/util/ImmutableCollections$MapN"), (3, u "EMPTY_MAP"), (0, u "Ljava/util/ImmutableCollections$MapN;"), (4, u "EXPAND_FACTOR"), (0, u "I"), (36, .class_ 170), (0, u "java/util/ImmutableCollections$MapN$MapNIterator"), (0, .class_ 172), (0, u "java/util/ImmutableCollections$MapN$1"), (0, .class_ 174), (0, u "java/util/ImmutableCollections$Map1"), (0, .class_ 176), (0, u "java/util/ImmutableCollections$AbstractImmutableMap"), (0, .class_ 178), (0, u "java/util/ImmutableCollections$SetN$SetNIterator"), (0, .class_ 180), (0, u "java/util/ImmutableCollections$Set12"), (0, .class_ 182), (0, u "java/util/ImmutableCollections$Set12$1"), (0, .class_ 184), (0, u "java/util/ImmutableCollections$AbstractImmutableSet"), (0, .class_ 186), (0, u "java/util/ImmutableCollections$SubList"), (0, .class_ 188), (0, u "java/util/ImmutableCollections$ListItr"), (0, .class_ 190), (0, u "java/util/ImmutableCollections$AbstractImmutableList"), (0, .class_ 192), (0, u "java/util/ImmutableCollections$AbstractImmutableCollection"), (0, .class_ 194), (0, u "java/util/ImmutableCollections$Access"), (0, .class_ 196), (0, u "java/util/ImmutableCollections$Access$1")] 16

def k31m0 : Method := { name := "<init>", desc := "()V", sig := { parameters := [], returnType := none }, accessFlags := 2, code := none }
/-- java/util/ImmutableCollections -/
def k31 : Class := { plain "java/util/ImmutableCollections" (some 0) with
  accessFlags := 32
  interfaces := #[]
  cf := some (fileOf pool31 47 #[.nestMembers #[120, 169, 171, 173, 175, 111, 177, 179, 181, 183, 12, 10, 185, 187, 189, 191, 193, 195]] #[{ accessFlags := 2, nameIndex := 5, descriptorIndex := 6, attributes := #[] }] 32 2 #[] #[{ accessFlags := 26, nameIndex := 95, descriptorIndex := 96, attributes := #[] }, { accessFlags := 26, nameIndex := 99, descriptorIndex := 17, attributes := #[] }, { accessFlags := 10, nameIndex := 106, descriptorIndex := 56, attributes := #[] }, { accessFlags := 26, nameIndex := 109, descriptorIndex := 110, attributes := #[] }, { accessFlags := 24, nameIndex := 62, descriptorIndex := 63, attributes := #[] }, { accessFlags := 24, nameIndex := 72, descriptorIndex := 63, attributes := #[] }, { accessFlags := 24, nameIndex := 118, descriptorIndex := 119, attributes := #[] }, { accessFlags := 24, nameIndex := 125, descriptorIndex := 126, attributes := #[] }, { accessFlags := 24, nameIndex := 131, descriptorIndex := 132, attributes := #[] }, { accessFlags := 4120, nameIndex := 50, descriptorIndex := 17, attributes := #[] }])
  fields := #[{ name := "SALT32L", type := .long, accessFlags := 26, slot := 0, constantValue := 0 }, { name := "REVERSE", type := .boolean, accessFlags := 26, slot := 1, constantValue := 0 }, { name := "archivedObjects", type := (.array (.object "java/lang/Object")), accessFlags := 10, slot := 2, constantValue := 0 }, { name := "EMPTY", type := (.object "java/lang/Object"), accessFlags := 26, slot := 3, constantValue := 0 }, { name := "EMPTY_LIST", type := (.object "java/util/ImmutableCollections$ListN"), accessFlags := 24, slot := 4, constantValue := 0 }, { name := "EMPTY_LIST_NULLS", type := (.object "java/util/ImmutableCollections$ListN"), accessFlags := 24, slot := 5, constantValue := 0 }, { name := "EMPTY_SET", type := (.object "java/util/ImmutableCollections$SetN"), accessFlags := 24, slot := 6, constantValue := 0 }, { name := "EMPTY_MAP", type := (.object "java/util/ImmutableCollections$MapN"), accessFlags := 24, slot := 7, constantValue := 0 }, { name := "EXPAND_FACTOR", type := .int, accessFlags := 24, slot := 8, constantValue := 0 }, { name := "$assertionsDisabled", type := .boolean, accessFlags := 4120, slot := 9, constantValue := 0 }]
  methods := #[k31m0]
  instanceTypes := #[]
  staticTypes := #[.long, .boolean, (.array (.object "java/lang/Object")), (.object "java/lang/Object"), (.object "java/util/ImmutableCollections$ListN"), (.object "java/util/ImmutableCollections$ListN"), (.object "java/util/ImmutableCollections$SetN"), (.object "java/util/ImmutableCollections$MapN"), .int, .boolean]
  resolved := Array.replicate 213 none
  statics := some 3 }

def pool32 : Array CpInfo := pool [(2, .class_ 4), (1, u "java/util/AbstractCollection"), (0, u "<init>"), (0, u "()V"), (1, .class_ 10), (1, u "java/util/ImmutableCollections"), (2, .class_ 14), (0, u "java/util/ImmutableCollections$AbstractImmutableCollection")] 41

def k32m0 : Method := { name := "<init>", desc := "()V", sig := { parameters := [], returnType := none }, accessFlags := 0, code := none }
/-- java/util/ImmutableCollections$AbstractImmutableCollection -/
def k32 : Class := { plain "java/util/ImmutableCollections$AbstractImmutableCollection" (some 12) with
  accessFlags := 1056
  interfaces := #[]
  cf := some (fileOf pool32 13 #[.nestHost 8] #[{ accessFlags := 0, nameIndex := 5, descriptorIndex := 6, attributes := #[] }] 1056 2 #[] #[])
  fields := #[]
  methods := #[k32m0]
  instanceTypes := #[]
  staticTypes := #[]
  resolved := Array.replicate 56 none
  statics := none }

def pool33 : Array CpInfo := pool [(2, .class_ 4), (1, u "java/util/ImmutableCollections$AbstractImmutableCollection"), (0, u "<init>"), (0, u "()V"), (1, .class_ 10), (1, u "java/util/ImmutableCollections"), (2, .methodref 14 15), (0, .class_ 16), (0, .nameAndType 17 18), (0, u "java/util/ImmutableCollections$AbstractImmutableList"), (0, u "size"), (0, u "()I"), (42, .class_ 62), (0, u "java/util/ImmutableCollections$ListItr"), (0, .methodref 61 64), (0, .nameAndType 5 65), (0, u "(Ljava/util/List;I)V"), (11, .class_ 78), (0, u "java/util/List"), (2, u "iterator"), (0, u "()Ljava/util/Iterator;"), (41, .class_ 125), (0, u "java/util/RandomAccess")] 70

def k33m0 : Method := { name := "<init>", desc := "()V", sig := { parameters := [], returnType := none }, accessFlags := 0, code := none }
def k33c1 : Code := { maxStack := 4, maxLocals := 1, code := jdk_46_method_10_code, exceptionTable := #[], attributes := #[] }
def k33m1 : Method := { name := "iterator", desc := "()Ljava/util/Iterator;", sig := { parameters := [], returnType := some (.object "java/util/Iterator") }, accessFlags := 1, code := some k33c1 }
/-- java/util/ImmutableCollections$AbstractImmutableList -/
def k33 : Class := { plain "java/util/ImmutableCollections$AbstractImmutableList" (some 32) with
  accessFlags := 1056
  interfaces := #[14, 16]
  cf := some (fileOf pool33 14 #[.nestHost 8] #[{ accessFlags := 0, nameIndex := 5, descriptorIndex := 6, attributes := #[] }, { accessFlags := 1, nameIndex := 81, descriptorIndex := 82, attributes := #[] }] 1056 2 #[77, 124] #[])
  fields := #[]
  methods := #[k33m0, k33m1]
  instanceTypes := #[]
  staticTypes := #[]
  resolved := Array.replicate 196 none
  statics := none }

def pool34 : Array CpInfo := pool [(2, .class_ 4), (1, u "java/util/ImmutableCollections$AbstractImmutableList"), (2, .fieldref 8 9), (0, .class_ 10), (0, .nameAndType 11 12), (0, u "java/util/ImmutableCollections$ListN"), (0, u "elements"), (0, u "[Ljava/lang/Object;"), (2, u "allowNulls"), (0, u "Z"), (42, .class_ 60), (0, u "java/io/Serializable"), (16, u "size"), (0, u "()I"), (35, .class_ 115), (0, u "java/util/ImmutableCollections")] 3

def k34c0 : Code := { maxStack := 1, maxLocals := 1, code := jdk_45_method_3_code, exceptionTable := #[], attributes := #[] }
def k34m0 : Method := { name := "size", desc := "()I", sig := { parameters := [], returnType := some .int }, accessFlags := 1, code := some k34c0 }
/-- java/util/ImmutableCollections$ListN -/
def k34 : Class := { plain "java/util/ImmutableCollections$ListN" (some 33) with
  accessFlags := 48
  interfaces := #[2]
  cf := some (fileOf pool34 8 #[.nestHost 114] #[{ accessFlags := 1, nameIndex := 77, descriptorIndex := 78, attributes := #[] }] 48 2 #[59] #[{ accessFlags := 18, nameIndex := 11, descriptorIndex := 12, attributes := #[] }, { accessFlags := 18, nameIndex := 15, descriptorIndex := 16, attributes := #[] }])
  fields := #[{ name := "elements", type := (.array (.object "java/lang/Object")), accessFlags := 18, slot := 0, constantValue := 0 }, { name := "allowNulls", type := .boolean, accessFlags := 18, slot := 1, constantValue := 0 }]
  methods := #[k34m0]
  instanceTypes := #[(.array (.object "java/lang/Object")), .boolean]
  staticTypes := #[]
  resolved := Array.replicate 119 none
  statics := none }

def pool35 : Array CpInfo := pool [(16, .class_ 18), (1, u "java/util/Iterator"), (0, u "hasNext"), (0, u "()Z"), (10, .class_ 32), (0, u "java/lang/Object")] 20

def k35m0 : Method := { name := "hasNext", desc := "()Z", sig := { parameters := [], returnType := some .boolean }, accessFlags := 1025, code := none }
/-- java/util/Iterator -/
def k35 : Class := { plain "java/util/Iterator" (some 0) with
  accessFlags := 1537
  interfaces := #[]
  cf := some (fileOf pool35 16 #[] #[{ accessFlags := 1025, nameIndex := 19, descriptorIndex := 20, attributes := #[] }] 1537 31 #[] #[])
  fields := #[]
  methods := #[k35m0]
  instanceTypes := #[]
  staticTypes := #[]
  resolved := Array.replicate 53 none
  statics := none }

def pool36 : Array CpInfo := pool [(1, .class_ 2), (0, u "java/util/ListIterator"), (0, .class_ 4), (0, u "java/lang/Object"), (0, .class_ 6), (0, u "java/util/Iterator")] 20

/-- java/util/ListIterator -/
def k36 : Class := { plain "java/util/ListIterator" (some 0) with
  accessFlags := 1537
  interfaces := #[35]
  cf := some (fileOf pool36 1 #[] #[] 1537 3 #[5] #[])
  fields := #[]
  methods := #[]
  instanceTypes := #[]
  staticTypes := #[]
  resolved := Array.replicate 27 none
  statics := none }

def pool37 : Array CpInfo := pool [(1, .methodref 2 3), (0, .class_ 4), (0, .nameAndType 5 6), (0, u "java/lang/Object"), (0, u "<init>"), (0, u "()V"), (0, .fieldref 8 9), (0, .class_ 10), (0, .nameAndType 11 12), (0, u "java/util/ImmutableCollections$ListItr"), (0, u "list"), (0, u "Ljava/util/List;"), (0, .fieldref 8 14), (0, .nameAndType 15 16), (0, u "size"), (0, u "I"), (0, .fieldref 8 18), (0, .nameAndType 19 16), (0, u "cursor"), (0, .fieldref 8 21), (0, .nameAndType 22 23), (0, u "isListIterator"), (0, u "Z"), (12, .class_ 38), (1, u "java/util/ImmutableCollections"), (2, .class_ 42), (0, u "java/util/ListIterator"), (4, u "(Ljava/util/List;I)V"), (11, u "hasNext"), (0, u "()Z")] 25

def k37c0 : Code := { maxStack := 2, maxLocals := 3, code := jdk_53_method_1_code, exceptionTable := #[], attributes := #[] }
def k37m0 : Method := { name := "<init>", desc := "(Ljava/util/List;I)V", sig := { parameters := [(.object "java/util/List"), .int], returnType := none }, accessFlags := 0, code := some k37c0 }
def k37c1 : Code := { maxStack := 2, maxLocals := 1, code := jdk_53_method_3_code, exceptionTable := #[], attributes := #[] }
def k37m1 : Method := { name := "hasNext", desc := "()Z", sig := { parameters := [], returnType := some .boolean }, accessFlags := 1, code := some k37c1 }
/-- java/util/ImmutableCollections$ListItr -/
def k37 : Class := { plain "java/util/ImmutableCollections$ListItr" (some 0) with
  accessFlags := 48
  interfaces := #[36]
  cf := some (fileOf pool37 8 #[.nestHost 36] #[{ accessFlags := 0, nameIndex := 5, descriptorIndex := 47, attributes := #[] }, { accessFlags := 1, nameIndex := 59, descriptorIndex := 60, attributes := #[] }] 48 2 #[41] #[{ accessFlags := 18, nameIndex := 11, descriptorIndex := 12, attributes := #[] }, { accessFlags := 18, nameIndex := 15, descriptorIndex := 16, attributes := #[] }, { accessFlags := 18, nameIndex := 22, descriptorIndex := 23, attributes := #[] }, { accessFlags := 2, nameIndex := 19, descriptorIndex := 16, attributes := #[] }])
  fields := #[{ name := "list", type := (.object "java/util/List"), accessFlags := 18, slot := 0, constantValue := 0 }, { name := "size", type := .int, accessFlags := 18, slot := 1, constantValue := 0 }, { name := "isListIterator", type := .boolean, accessFlags := 18, slot := 2, constantValue := 0 }, { name := "cursor", type := .int, accessFlags := 2, slot := 3, constantValue := 0 }]
  methods := #[k37m0, k37m1]
  instanceTypes := #[(.object "java/util/List"), .int, .boolean, .int]
  staticTypes := #[]
  resolved := Array.replicate 86 none
  statics := none }

def pool38 : Array CpInfo := pool [(4, .class_ 6), (1, u "java/lang/Object"), (0, u "<init>"), (0, u "()V"), (5, .class_ 16), (1, u "java/lang/StringLatin1"), (33, .methodref 14 51), (0, .nameAndType 52 53), (0, u "getChar"), (0, u "([BI)C"), (3, u "([B)I"), (8, .fieldref 67 68), (0, .class_ 69), (0, .nameAndType 70 71), (0, u "java/lang/CharacterDataLatin1"), (0, u "instance"), (0, u "Ljava/lang/CharacterDataLatin1;"), (19, u "(I)Z"), (29, u "$assertionsDisabled"), (0, u "Z"), (88, .methodref 67 212), (0, .nameAndType 213 91), (0, u "isWhitespace"), (2, u "indexOfNonWhitespace"), (4, .class_ 223), (1, u "java/lang/StringLatin1$LinesSpliterator"), (57, u "equals"), (0, u "([B[B)Z"), (107, .class_ 391), (0, u "java/lang/StringLatin1$CharsSpliterator")] 3

def k38m0 : Method := { name := "<init>", desc := "()V", sig := { parameters := [], returnType := none }, accessFlags := 0, code := none }
def k38c1 : Code := { maxStack := 3, maxLocals := 3, code := jdk_43_method_13_code, exceptionTable := #[], attributes := #[] }
def k38m1 : Method := { name := "equals", desc := "([B[B)Z", sig := { parameters := [(.array .byte), (.array .byte)], returnType := some .boolean }, accessFlags := 9, code := some k38c1 }
def k38c2 : Code := { maxStack := 2, maxLocals := 4, code := jdk_43_method_37_code, exceptionTable := #[], attributes := #[] }
def k38m2 : Method := { name := "indexOfNonWhitespace", desc := "([B)I", sig := { parameters := [(.array .byte)], returnType := some .int }, accessFlags := 9, code := some k38c2 }
def k38c3 : Code := { maxStack := 2, maxLocals := 2, code := jdk_43_method_44_code, exceptionTable := #[], attributes := #[] }
def k38m3 : Method := { name := "getChar", desc := "([BI)C", sig := { parameters := [(.array .byte), .int], returnType := some .char }, accessFlags := 9, code := some k38c3 }
/-- java/lang/StringLatin1 -/
def k38 : Class := { plain "java/lang/StringLatin1" (some 0) with
  accessFlags := 48
  interfaces := #[]
  cf := some (fileOf pool38 14 #[.nestMembers #[390, 221]] #[{ accessFlags := 0, nameIndex := 7, descriptorIndex := 8, attributes := #[] }, { accessFlags := 9, nameIndex := 281, descriptorIndex := 282, attributes := #[] }, { accessFlags := 9, nameIndex := 216, descriptorIndex := 57, attributes := #[] }, { accessFlags := 9, nameIndex := 52, descriptorIndex := 53, attributes := #[] }] 48 4 #[] #[{ accessFlags := 4120, nameIndex := 121, descriptorIndex := 122, attributes := #[] }])
  fields := #[{ name := "$assertionsDisabled", type := .boolean, accessFlags := 4120, slot := 0, constantValue := 0 }]
  methods := #[k38m0, k38m1, k38m2, k38m3]
  instanceTypes := #[]
  staticTypes := #[.boolean]
  resolved := Array.replicate 395 none
  statics := none }

def pool39 : Array CpInfo := pool [(2, .class_ 4), (1, u "java/lang/Object"), (0, u "<init>"), (0, u "()V"), (1, .class_ 10), (1, u "java/lang/CharacterData")] 75

def k39m0 : Method := { name := "<init>", desc := "()V", sig := { parameters := [], returnType := none }, accessFlags := 0, code := none }
/-- java/lang/CharacterData -/
def k39 : Class := { plain "java/lang/CharacterData" (some 0) with
  accessFlags := 1056
  interfaces := #[]
  cf := some (fileOf pool39 8 #[] #[{ accessFlags := 0, nameIndex := 5, descriptorIndex := 6, attributes := #[] }] 1056 2 #[] #[])
  fields := #[]
  methods := #[k39m0]
  instanceTypes := #[]
  staticTypes := #[]
  resolved := Array.replicate 86 none
  statics := none }

def pool40 : Array CpInfo := pool [(1, .fieldref 2 3), (0, .class_ 4), (0, .nameAndType 5 6), (0, u "java/lang/CharacterDataLatin1"), (0, u "A"), (0, u "[I"), (2, u "B"), (0, u "[C"), (3, u "(I)I"), (0, .methodref 2 16), (0, .nameAndType 17 14), (0, u "getProperties"), (3, u "(I)Z"), (5, u "DIGITS"), (0, u "[B"), (8, u "sharpsMap"), (1, .class_ 41), (1, u "java/lang/CharacterData"), (0, u "<init>"), (0, u "()V"), (3, u "instance"), (0, u "Ljava/lang/CharacterDataLatin1;"), (78, u "isWhitespace")] 13

def k40c0 : Code := { maxStack := 2, maxLocals := 4, code := jdk_116_method_1_code, exceptionTable := #[], attributes := #[] }
def k40m0 : Method := { name := "getProperties", desc := "(I)I", sig := { parameters := [.int], returnType := some .int }, accessFlags := 0, code := some k40c0 }
def k40c1 : Code := { maxStack := 2, maxLocals := 3, code := jdk_116_method_26_code, exceptionTable := #[], attributes := #[] }
def k40m1 : Method := { name := "isWhitespace", desc := "(I)Z", sig := { parameters := [.int], returnType := some .boolean }, accessFlags := 0, code := some k40c1 }
def k40m2 : Method := { name := "<init>", desc := "()V", sig := { parameters := [], returnType := none }, accessFlags := 2, code := none }
/-- java/lang/CharacterDataLatin1 -/
def k40 : Class := { plain "java/lang/CharacterDataLatin1" (some 39) with
  accessFlags := 32
  interfaces := #[]
  cf := some (fileOf pool40 2 #[] #[{ accessFlags := 0, nameIndex := 17, descriptorIndex := 14, attributes := #[] }, { accessFlags := 0, nameIndex := 127, descriptorIndex := 21, attributes := #[] }, { accessFlags := 2, nameIndex := 42, descriptorIndex := 43, attributes := #[] }] 32 39 #[] #[{ accessFlags := 26, nameIndex := 27, descriptorIndex := 28, attributes := #[] }, { accessFlags := 8, nameIndex := 37, descriptorIndex := 10, attributes := #[] }, { accessFlags := 24, nameIndex := 47, descriptorIndex := 48, attributes := #[] }, { accessFlags := 24, nameIndex := 5, descriptorIndex := 6, attributes := #[] }, { accessFlags := 24, nameIndex := 9, descriptorIndex := 10, attributes := #[] }])
  fields := #[{ name := "DIGITS", type := (.array .byte), accessFlags := 26, slot := 0, constantValue := 0 }, { name := "sharpsMap", type := (.array .char), accessFlags := 8, slot := 1, constantValue := 0 }, { name := "instance", type := (.object "java/lang/CharacterDataLatin1"), accessFlags := 24, slot := 2, constantValue := 0 }, { name := "A", type := (.array .int), accessFlags := 24, slot := 3, constantValue := 0 }, { name := "B", type := (.array .char), accessFlags := 24, slot := 4, constantValue := 0 }]
  methods := #[k40m0, k40m1, k40m2]
  instanceTypes := #[]
  staticTypes := #[(.array .byte), (.array .char), (.object "java/lang/CharacterDataLatin1"), (.array .int), (.array .char)]
  resolved := Array.replicate 141 none
  statics := some 4 }

def pool41 : Array CpInfo := pool [(2, .class_ 4), (1, u "java/lang/Object"), (0, u "<init>"), (0, u "()V"), (17, .class_ 26), (1, u "jdk/internal/util/Preconditions"), (28, .class_ 56), (0, u "jdk/internal/util/Preconditions$4"), (57, .class_ 115), (0, u "jdk/internal/util/Preconditions$1"), (7, u "SIOOBE_FORMATTER"), (0, u "Ljava/util/function/BiFunction;"), (0, .class_ 126), (0, u "jdk/internal/util/Preconditions$2"), (3, u "AIOOBE_FORMATTER"), (0, .class_ 132), (0, u "jdk/internal/util/Preconditions$3"), (3, u "IOOBE_FORMATTER")] 57

def k41m0 : Method := { name := "<init>", desc := "()V", sig := { parameters := [], returnType := none }, accessFlags := 1, code := none }
/-- jdk/internal/util/Preconditions -/
def k41 : Class := { plain "jdk/internal/util/Preconditions" (some 0) with
  accessFlags := 33
  interfaces := #[]
  cf := some (fileOf pool41 24 #[.nestMembers #[55, 131, 125, 114]] #[{ accessFlags := 1, nameIndex := 5, descriptorIndex := 6, attributes := #[] }] 33 2 #[] #[{ accessFlags := 25, nameIndex := 123, descriptorIndex := 124, attributes := #[] }, { accessFlags := 25, nameIndex := 130, descriptorIndex := 124, attributes := #[] }, { accessFlags := 25, nameIndex := 136, descriptorIndex := 124, attributes := #[] }])
  fields := #[{ name := "SIOOBE_FORMATTER", type := (.object "java/util/function/BiFunction"), accessFlags := 25, slot := 0, constantValue := 0 }, { name := "AIOOBE_FORMATTER", type := (.object "java/util/function/BiFunction"), accessFlags := 25, slot := 1, constantValue := 0 }, { name := "IOOBE_FORMATTER", type := (.object "java/util/function/BiFunction"), accessFlags := 25, slot := 2, constantValue := 0 }]
  methods := #[k41m0]
  instanceTypes := #[]
  staticTypes := #[(.object "java/util/function/BiFunction"), (.object "java/util/function/BiFunction"), (.object "java/util/function/BiFunction")]
  resolved := Array.replicate 194 none
  statics := some 5 }

def pool42 : Array CpInfo := pool [(9, u "<init>"), (6, .class_ 18), (1, u "java/lang/Object"), (0, u "()V"), (1, .class_ 23), (1, u "jdk/internal/util/ArraysSupport"), (0, u "LOG2_ARRAY_LONG_INDEX_SCALE"), (0, u "I"), (2, u "U"), (0, u "Ljdk/internal/misc/Unsafe;"), (8, u "BIG_ENDIAN"), (0, u "Z"), (8, u "LOG2_BYTE_BIT_SIZE"), (4, u "LOG2_ARRAY_INT_INDEX_SCALE"), (54, u "JLA"), (0, u "Ljdk/internal/access/JavaLangAccess;"), (11, u "LOG2_ARRAY_BOOLEAN_INDEX_SCALE"), (9, u "LOG2_ARRAY_BYTE_INDEX_SCALE"), (5, u "LOG2_ARRAY_CHAR_INDEX_SCALE"), (5, u "LOG2_ARRAY_SHORT_INDEX_SCALE"), (18, u "LOG2_ARRAY_FLOAT_INDEX_SCALE"), (24, u "LOG2_ARRAY_DOUBLE_INDEX_SCALE"), (89, u "T_BOOLEAN"), (2, u "T_CHAR"), (1, u "T_FLOAT"), (1, u "T_DOUBLE"), (1, u "T_BYTE"), (1, u "T_SHORT"), (1, u "T_INT"), (1, u "T_LONG"), (1, u "SOFT_MAX_ARRAY_LENGTH")] 83

def k42m0 : Method := { name := "<init>", desc := "()V", sig := { parameters := [], returnType := none }, accessFlags := 2, code := none }
/-- jdk/internal/util/ArraysSupport -/
def k42 : Class := { plain "jdk/internal/util/ArraysSupport" (some 0) with
  accessFlags := 33
  interfaces := #[]
  cf := some (fileOf pool42 21 #[] #[{ accessFlags := 2, nameIndex := 9, descriptorIndex := 19, attributes := #[] }] 33 16 #[] #[{ accessFlags := 24, nameIndex := 28, descriptorIndex := 29, attributes := #[] }, { accessFlags := 26, nameIndex := 38, descriptorIndex := 39, attributes := #[] }, { accessFlags := 25, nameIndex := 121, descriptorIndex := 25, attributes := #[] }, { accessFlags := 25, nameIndex := 131, descriptorIndex := 25, attributes := #[] }, { accessFlags := 25, nameIndex := 137, descriptorIndex := 25, attributes := #[] }, { accessFlags := 25, nameIndex := 143, descriptorIndex := 25, attributes := #[] }, { accessFlags := 25, nameIndex := 53, descriptorIndex := 25, attributes := #[] }, { accessFlags := 25, nameIndex := 24, descriptorIndex := 25, attributes := #[] }, { accessFlags := 25, nameIndex := 162, descriptorIndex := 25, attributes := #[] }, { accessFlags := 25, nameIndex := 187, descriptorIndex := 25, attributes := #[] }, { accessFlags := 26, nameIndex := 48, descriptorIndex := 25, attributes := #[] }, { accessFlags := 25, nameIndex := 277, descriptorIndex := 25, attributes := #[] }, { accessFlags := 25, nameIndex := 280, descriptorIndex := 25, attributes := #[] }, { accessFlags := 25, nameIndex := 282, descriptorIndex := 25, attributes := #[] }, { accessFlags := 25, nameIndex := 284, descriptorIndex := 25, attributes := #[] }, { accessFlags := 25, nameIndex := 286, descriptorIndex := 25, attributes := #[] }, { accessFlags := 25, nameIndex := 288, descriptorIndex := 25, attributes := #[] }, { accessFlags := 25, nameIndex := 290, descriptorIndex := 25, attributes := #[] }, { accessFlags := 25, nameIndex := 292, descriptorIndex := 25, attributes := #[] }, { accessFlags := 26, nameIndex := 108, descriptorIndex := 109, attributes := #[] }, { accessFlags := 25, nameIndex := 294, descriptorIndex := 25, attributes := #[] }])
  fields := #[{ name := "U", type := (.object "jdk/internal/misc/Unsafe"), accessFlags := 24, slot := 0, constantValue := 0 }, { name := "BIG_ENDIAN", type := .boolean, accessFlags := 26, slot := 1, constantValue := 0 }, { name := "LOG2_ARRAY_BOOLEAN_INDEX_SCALE", type := .int, accessFlags := 25, slot := 2, constantValue := 0 }, { name := "LOG2_ARRAY_BYTE_INDEX_SCALE", type := .int, accessFlags := 25, slot := 3, constantValue := 0 }, { name := "LOG2_ARRAY_CHAR_INDEX_SCALE", type := .int, accessFlags := 25, slot := 4, constantValue := 0 }, { name := "LOG2_ARRAY_SHORT_INDEX_SCALE", type := .int, accessFlags := 25, slot := 5, constantValue := 0 }, { name := "LOG2_ARRAY_INT_INDEX_SCALE", type := .int, accessFlags := 25, slot := 6, constantValue := 0 }, { name := "LOG2_ARRAY_LONG_INDEX_SCALE", type := .int, accessFlags := 25, slot := 7, constantValue := 0 }, { name := "LOG2_ARRAY_FLOAT_INDEX_SCALE", type := .int, accessFlags := 25, slot := 8, constantValue := 0 }, { name := "LOG2_ARRAY_DOUBLE_INDEX_SCALE", type := .int, accessFlags := 25, slot := 9, constantValue := 0 }, { name := "LOG2_BYTE_BIT_SIZE", type := .int, accessFlags := 26, slot := 10, constantValue := 0 }, { name := "T_BOOLEAN", type := .int, accessFlags := 25, slot := 11, constantValue := 0 }, { name := "T_CHAR", type := .int, accessFlags := 25, slot := 12, constantValue := 0 }, { name := "T_FLOAT", type := .int, accessFlags := 25, slot := 13, constantValue := 0 }, { name := "T_DOUBLE", type := .int, accessFlags := 25, slot := 14, constantValue := 0 }, { name := "T_BYTE", type := .int, accessFlags := 25, slot := 15, constantValue := 0 }, { name := "T_SHORT", type := .int, accessFlags := 25, slot := 16, constantValue := 0 }, { name := "T_INT", type := .int, accessFlags := 25, slot := 17, constantValue := 0 }, { name := "T_LONG", type := .int, accessFlags := 25, slot := 18, constantValue := 0 }, { name := "JLA", type := (.object "jdk/internal/access/JavaLangAccess"), accessFlags := 26, slot := 19, constantValue := 0 }, { name := "SOFT_MAX_ARRAY_LENGTH", type := .int, accessFlags := 25, slot := 20, constantValue := 0 }]
  methods := #[k42m0]
  instanceTypes := #[]
  staticTypes := #[(.object "jdk/internal/misc/Unsafe"), .boolean, .int, .int, .int, .int, .int, .int, .int, .int, .int, .int, .int, .int, .int, .int, .int, .int, .int, (.object "jdk/internal/access/JavaLangAccess"), .int]
  resolved := Array.replicate 378 none
  statics := none }

def pool43 : Array CpInfo := pool [(1, u "java/lang/Class"), (0, .class_ 1), (0, u "java/lang/Object"), (0, .class_ 3)] 3

/-- java/lang/Class -/
def k43 : Class := { plain "java/lang/Class" (some 0) with
  accessFlags := 49
  interfaces := #[]
  cf := some (fileOf pool43 2 #[] #[] 49 4 #[] #[])
  fields := #[]
  methods := #[]
  instanceTypes := #[]
  staticTypes := #[]
  resolved := Array.replicate 8 none
  statics := none }

/-- the primitive byte -/
def k44 : Class := { plain "byte" none with kind := .primitive 'B', accessFlags := 0x411 }
/-- [B -/
def k45 : Class := { plain "[B" (some 0) with kind := .array 44 .byte, interfaces := #[17, 2], accessFlags := 1041 }

/-- the primitive char -/
def k46 : Class := { plain "char" none with kind := .primitive 'C', accessFlags := 0x411 }
/-- [C -/
def k47 : Class := { plain "[C" (some 0) with kind := .array 46 .char, interfaces := #[17, 2], accessFlags := 1041 }

/-- the primitive int -/
def k48 : Class := { plain "int" none with kind := .primitive 'I', accessFlags := 0x411 }
/-- [I -/
def k49 : Class := { plain "[I" (some 0) with kind := .array 48 .int, interfaces := #[17, 2], accessFlags := 1041 }

/-- [Ljava/lang/Object; -/
def k50 : Class := { plain "[Ljava/lang/Object;" (some 0) with kind := .array 0 (.object "java/lang/Object"), interfaces := #[17, 2], accessFlags := 1041 }

def heap : Heap := #[{ cls := 7, slots := #[.long 0, .int 1, .null, .int 0, .null, .int 0, .int 0], vm := .statics 7 },
  { cls := 18, slots := #[.long 0, .int 0, .ref 15, .ref 16], vm := .statics 18 },
  { cls := 20, slots := #[.ref 12, .null, .null, .null, .null], vm := .statics 20 },
  { cls := 31, slots := #[.long 0, .int 0, .null, .null, .ref 13, .null, .null, .null, .int 0, .int 0], vm := .statics 31 },
  { cls := 40, slots := #[.null, .null, .ref 17, .ref 18, .null], vm := .statics 40 },
  { cls := 41, slots := #[.null, .null, .null], vm := .statics 41 },
  { cls := 43, slots := #[], vm := .mirror 18 },
  { cls := 43, slots := #[], vm := .mirror 28 },
  { cls := 43, slots := #[], vm := .mirror 29 },
  { cls := 43, slots := #[], vm := .mirror 25 },
  { cls := 43, slots := #[], vm := .mirror 30 },
  { cls := 50, slots := #[], vm := .none },
  { cls := 20, slots := #[.null, .int 0, .int 0], vm := .none },
  { cls := 34, slots := #[.ref 11, .int 0], vm := .none },
  { cls := 42, slots := #[], vm := .none },
  { cls := 50, slots := #[], vm := .none },
  { cls := 50, slots := #[], vm := .none },
  { cls := 40, slots := #[], vm := .none },
  { cls := 49, slots := #[.int 1207963663, .int 1207963663, .int 1207963663, .int 1207963663, .int 1207963663, .int 1207963663, .int 1207963663, .int 1207963663, .int 1207963663, .int 1476411407, .int 1342193679, .int 1476411407, .int 1610629135, .int 1342193679, .int 1207963663, .int 1207963663, .int 1207963663, .int 1207963663, .int 1207963663, .int 1207963663, .int 1207963663, .int 1207963663, .int 1207963663, .int 1207963663, .int 1207963663, .int 1207963663, .int 1207963663, .int 1207963663, .int 1342193679, .int 1342193679, .int 1342193679, .int 1476411407, .int 1610629132, .int 1744830488, .int 1744830488, .int 671088664, .int 671113242, .int 671088664, .int 1744830488, .int 1744830488, .int (-402653163), .int (-402653162), .int 1744830488, .int 536870937, .int 939524120, .int 536870932, .int 939524120, .int 939524120, .int 402667017, .int 402667017, .int 402667017, .int 402667017, .int 402667017, .int 402667017, .int 402667017, .int 402667017, .int 402667017, .int 402667017, .int 939524120, .int 1744830488, .int (-402653159), .int 1744830489, .int (-402653159), .int 1744830488, .int 1744830488, .int 8552417, .int 8552417, .int 8552417, .int 8552417, .int 8552417, .int 8552417, .int 8552417, .int 8552417, .int 8552417, .int 8552417, .int 8552417, .int 8552417, .int 8552417, .int 8552417, .int 8552417, .int 8552417, .int 8552417, .int 8552417, .int 8552417, .int 8552417, .int 8552417, .int 8552417, .int 8552417, .int 8552417, .int 8552417, .int 8552417, .int (-402653163), .int 1744830488, .int (-402653162), .int 1744830491, .int 1744850967, .int 1744830491, .int 8486882, .int 8486882, .int 8486882, .int 8486882, .int 8486882, .int 8486882, .int 8486882, .int 8486882, .int 8486882, .int 8486882, .int 8486882, .int 8486882, .int 8486882, .int 8486882, .int 8486882, .int 8486882, .int 8486882, .int 8486882, .int 8486882, .int 8486882, .int 8486882, .int 8486882, .int 8486882, .int 8486882, .int 8486882, .int 8486882, .int (-402653163), .int 1744830489, .int (-402653162), .int 1744830489, .int 1207963663, .int 1207963663, .int 1207963663, .int 1207963663, .int 1207963663, .int 1207963663, .int 1342181391, .int 1207963663, .int 1207963663, .int 1207963663, .int 1207963663, .int 1207963663, .int 1207963663, .int 1207963663, .int 1207963663, .int 1207963663, .int 1207963663, .int 1207963663, .int 1207963663, .int 1207963663, .int 1207963663, .int 1207963663, .int 1207963663, .int 1207963663, .int 1207963663, .int 1207963663, .int 1207963663, .int 1207963663, .int 1207963663, .int 1207963663, .int 1207963663, .int 1207963663, .int 1207963663, .int 939524108, .int 1744830488, .int 671113242, .int 671113242, .int 671113242, .int 671113242, .int 1744830492, .int 1744830488, .int 1744830491, .int 1744830492, .int 28677, .int (-402653155), .int 1744830489, .int 1207963664, .int 1744830492, .int 1744830491, .int 671088668, .int 671088665, .int 402654731, .int 402654731, .int 1744830491, .int 134049794, .int 1744830488, .int 1744830488, .int 1744830491, .int 402654475, .int 28677, .int (-402653154), .int 1744832523, .int 1744832523, .int 1744832523, .int 1744830488, .int 8548353, .int 8548353, .int 8548353, .int 8548353, .int 8548353, .int 8548353, .int 8548353, .int 8548353, .int 8548353, .int 8548353, .int 8548353, .int 8548353, .int 8548353, .int 8548353, .int 8548353, .int 8548353, .int 8548353, .int 8548353, .int 8548353, .int 8548353, .int 8548353, .int 8548353, .int 8548353, .int 1744830489, .int 8548353, .int 8548353, .int 8548353, .int 8548353, .int 8548353, .int 8548353, .int 8548353, .int 134049794, .int 8482818, .int 8482818, .int 8482818, .int 8482818, .int 8482818, .int 8482818, .int 8482818, .int 8482818, .int 8482818, .int 8482818, .int 8482818, .int 8482818, .int 8482818, .int 8482818, .int 8482818, .int 8482818, .int 8482818, .int 8482818, .int 8482818, .int 8482818, .int 8482818, .int 8482818, .int 8482818, .int 1744830489, .int 8482818, .int 8482818, .int 8482818, .int 8482818, .int 8482818, .int 8482818, .int 8482818, .int 102592514], vm := .none }]
def classes : Array Class := #[k0, k1, k2, k3, k4, k5, k6, k7, k8, k9, k10, k11, k12, k13, k14, k15, k16, k17, k18, k19, k20, k21, k22, k23, k24, k25, k26, k27, k28, k29, k30, k31, k32, k33, k34, k35, k36, k37, k38, k39, k40, k41, k42, k43, k44, k45, k46, k47, k48, k49, k50]
def interned : List (Array UInt16 × Addr) := []
def slotsUsed : Nat := 295
def theMethod : MethodId := ⟨1, 1⟩
def args0 : Array Value := #[.int 5, .int 3, .int 7, .int 9]
def aboutOver (below : List Frame) : State where
  vm := { classes := classes, interned := interned.toArray }
  heap := heap
  slotsUsed := slotsUsed
  threads := #[{ frames := .invoking theMethod args0 :: below }]
def below0 : List Frame := [.native { method := ⟨0, 0⟩, args := #[] }]
def about1 : State := aboutOver below0
def p0 : Program := .bare "" "" ""
def e0 : Env := launch0.env 0 0 0
theorem w_frames : about1.frames = Frame.invoking theMethod args0 :: below0 := rfl
set_option maxRecDepth 65536 in
theorem w_args : argsFit about1.vm theMethod args0 = true := by decide +kernel
set_option maxRecDepth 65536 in
theorem w_heap : heapFits about1 = true := by decide +kernel
set_option maxRecDepth 65536 in
theorem w_runnable : about1.curStatus? = some .runnable := by decide +kernel
set_option maxRecDepth 65536 in
theorem w_alone : about1.alone = true := by decide +kernel
set_option maxRecDepth 65536 in
theorem w_named : about1.methodNamed? x = some theMethod := by decide +kernel
set_option maxRecDepth 65536 in
theorem w_hears : about1.hears theMethod below0 = true := by decide +kernel
set_option maxRecDepth 65536 in
theorem w_ripe : about1.ripe theMethod args0 below0 = true := by decide +kernel
theorem w_running : about1.status = .running := rfl
set_option maxRecDepth 65536 in
theorem w_room : about1.hasRoom e0.platform room_1 = true :=
  launch0.hasRoom_least _ room_1 (by decide +kernel) (by decide +kernel) (by decide +kernel) (by decide +kernel) (by decide +kernel) (by decide +kernel)
theorem allAtoms_all (ts : List Jvm.Cond) (a : Array Jvm.Value) (st : Jvm.State) : (allAtoms ts).before a st = ts.all (fun c => c.before a st) := by
  induction ts with
  | nil => rfl
  | cons c t ih =>
    show (Jvm.Cond.and c (allAtoms t)).before a st = _
    rw [Jvm.Cond.before_and, ih, List.all_cons]
def words1 : List Jvm.Cond := Jvm.Cond.code x code maxLocals ret :: tables_1
/-- a 'code' word, met by the world's own term for the bytes: nothing is compared byte by byte -/
theorem code_word {y : MethodName} {bytes : ByteArray} {mx : Nat} {rt : Option FieldType} {a : Array Value} {s : State} {m : MethodId} {meth : Method} {c : Code} (h1 : s.methodNamed? y = some m) (h2 : s.vm.method? m = some meth) (h3 : meth.code = some c) (h4 : c.code = bytes)
    (h5 : (c.maxLocals == mx && c.exceptionTable.isEmpty && decide (c.maxStack ≤ mostOperands) && decide (meth.sig.returnType = rt) && !meth.locks && decide (parseMethodDescriptor y.desc = some meth.sig)) = true) : (Jvm.Cond.code y bytes mx rt).before a s = true := by
  simp only [Bool.and_eq_true, beq_iff_eq, Bool.not_eq_true', decide_eq_true_eq] at h5
  obtain ⟨⟨⟨⟨⟨g1, g2⟩, g3⟩, g4⟩, g5⟩, g6⟩ := h5
  simp [Cond.before, Cond.holds, Cond.value, h1, h2, h3, h4, g1, g2, g3, g4, g5, g6]
def isCode : Jvm.Cond → Bool
  | .code _ _ _ _ => true
  | _ => false
theorem all_split {L : List Jvm.Cond} {P : Jvm.Cond → Bool} (h1 : L.all (fun c => isCode c || P c) = true) (h2 : ∀ c ∈ L.filter isCode, P c = true) : L.all P = true := by
  refine List.all_eq_true.mpr fun c hc => ?_
  have h := List.all_eq_true.mp h1 c hc
  rcases Bool.eq_false_or_eq_true (isCode c) with hi | hi
  · exact h2 c (List.mem_filter.mpr ⟨hc, hi⟩)
  · simpa [hi] using h
set_option maxRecDepth 65536 in
theorem w_c0 : (Jvm.Cond.code x code maxLocals ret).before args0 about1 = true := code_word (m := ⟨1, 1⟩) (meth := k1m1) (c := k1c1) (by decide +kernel) rfl rfl rfl (by decide +kernel)
set_option maxRecDepth 65536 in
theorem w_c1 : (Jvm.Cond.code ({ cls := "java/lang/String", name := "<init>", desc := "([C)V" } : Jvm.MethodName) jdk_42_method_3_code (2 : Nat) (Option.none : Option Jvm.ClassFile.FieldType)).before args0 about1 = true := code_word (m := ⟨7, 1⟩) (meth := k7m1) (c := k7c1) (by decide +kernel) rfl rfl rfl (by decide +kernel)
set_option maxRecDepth 65536 in
theorem w_c2 : (Jvm.Cond.code ({ cls := "java/lang/String", name := "<init>", desc := "([CIILjava/lang/Void;)V" } : Jvm.MethodName) jdk_42_method_149_code (6 : Nat) (Option.none : Option Jvm.ClassFile.FieldType)).before args0 about1 = true := code_word (m := ⟨7, 6⟩) (meth := k7m6) (c := k7c6) (by decide +kernel) rfl rfl rfl (by decide +kernel)
set_option maxRecDepth 65536 in
theorem w_c3 : (Jvm.Cond.code ({ cls := "java/lang/Object", name := "<init>", desc := "()V" } : Jvm.MethodName) object_method_1_code (1 : Nat) (Option.none : Option Jvm.ClassFile.FieldType)).before args0 about1 = true := code_word (m := ⟨0, 0⟩) (meth := k0m0) (c := k0c0) (by decide +kernel) rfl rfl rfl (by decide +kernel)
set_option maxRecDepth 65536 in
theorem w_c4 : (Jvm.Cond.code ({ cls := "java/lang/StringUTF16", name := "compress", desc := "([CII)[B" } : Jvm.MethodName) jdk_52_method_16_code (6 : Nat) (Option.some (Jvm.ClassFile.FieldType.array Jvm.ClassFile.FieldType.byte))).before args0 about1 = true := code_word (m := ⟨8, 2⟩) (meth := k8m2) (c := k8c2) (by decide +kernel) rfl rfl rfl (by decide +kernel)
set_option maxRecDepth 65536 in
theorem w_c5 : (Jvm.Cond.code ({ cls := "java/lang/StringUTF16", name := "compress", desc := "([CI[BII)I" } : Jvm.MethodName) jdk_52_method_21_code (7 : Nat) (Option.some Jvm.ClassFile.FieldType.int)).before args0 about1 = true := code_word (m := ⟨8, 3⟩) (meth := k8m3) (c := k8c3) (by decide +kernel) rfl rfl rfl (by decide +kernel)
set_option maxRecDepth 65536 in
theorem w_c6 : (Jvm.Cond.code ({ cls := "java/lang/StringUTF16", name := "coderFromArrayLen", desc := "([BI)B" } : Jvm.MethodName) jdk_52_method_15_code (2 : Nat) (Option.some Jvm.ClassFile.FieldType.byte)).before args0 about1 = true := code_word (m := ⟨8, 1⟩) (meth := k8m1) (c := k8c1) (by decide +kernel) rfl rfl rfl (by decide +kernel)
set_option maxRecDepth 65536 in
theorem w_c7 : (Jvm.Cond.code ({ cls := "com/example/graft_container/graftcontainer/BeanDefinition", name := "<init>", desc := "()V" } : Jvm.MethodName) prog_7_method_1_code (1 : Nat) (Option.none : Option Jvm.ClassFile.FieldType)).before args0 about1 = true := code_word (m := ⟨9, 0⟩) (meth := k9m0) (c := k9c0) (by decide +kernel) rfl rfl rfl (by decide +kernel)
set_option maxRecDepth 65536 in
theorem w_c8 : (Jvm.Cond.code ({ cls := "java/util/ArrayList", name := "<init>", desc := "()V" } : Jvm.MethodName) jdk_38_method_2_code (1 : Nat) (Option.none : Option Jvm.ClassFile.FieldType)).before args0 about1 = true := code_word (m := ⟨18, 0⟩) (meth := k18m0) (c := k18c0) (by decide +kernel) rfl rfl rfl (by decide +kernel)
set_option maxRecDepth 65536 in
theorem w_c9 : (Jvm.Cond.code ({ cls := "java/util/AbstractList", name := "<init>", desc := "()V" } : Jvm.MethodName) jdk_39_method_1_code (1 : Nat) (Option.none : Option Jvm.ClassFile.FieldType)).before args0 about1 = true := code_word (m := ⟨15, 0⟩) (meth := k15m0) (c := k15c0) (by decide +kernel) rfl rfl rfl (by decide +kernel)
set_option maxRecDepth 65536 in
theorem w_c10 : (Jvm.Cond.code ({ cls := "java/util/AbstractCollection", name := "<init>", desc := "()V" } : Jvm.MethodName) jdk_22_method_1_code (1 : Nat) (Option.none : Option Jvm.ClassFile.FieldType)).before args0 about1 = true := code_word (m := ⟨12, 0⟩) (meth := k12m0) (c := k12c0) (by decide +kernel) rfl rfl rfl (by decide +kernel)
set_option maxRecDepth 65536 in
theorem w_c11 : (Jvm.Cond.code ({ cls := "java/util/LinkedHashMap", name := "<init>", desc := "()V" } : Jvm.MethodName) jdk_94_method_16_code (1 : Nat) (Option.none : Option Jvm.ClassFile.FieldType)).before args0 about1 = true := code_word (m := ⟨25, 0⟩) (meth := k25m0) (c := k25c0) (by decide +kernel) rfl rfl rfl (by decide +kernel)
set_option maxRecDepth 65536 in
theorem w_c12 : (Jvm.Cond.code ({ cls := "java/util/HashMap", name := "<init>", desc := "()V" } : Jvm.MethodName) jdk_69_method_7_code (1 : Nat) (Option.none : Option Jvm.ClassFile.FieldType)).before args0 about1 = true := code_word (m := ⟨23, 0⟩) (meth := k23m0) (c := k23c0) (by decide +kernel) rfl rfl rfl (by decide +kernel)
set_option maxRecDepth 65536 in
theorem w_c13 : (Jvm.Cond.code ({ cls := "java/util/AbstractMap", name := "<init>", desc := "()V" } : Jvm.MethodName) jdk_71_method_1_code (1 : Nat) (Option.none : Option Jvm.ClassFile.FieldType)).before args0 about1 = true := code_word (m := ⟨22, 0⟩) (meth := k22m0) (c := k22c0) (by decide +kernel) rfl rfl rfl (by decide +kernel)
set_option maxRecDepth 65536 in
theorem w_c14 : (Jvm.Cond.code ({ cls := "java/util/Collections", name := "unmodifiableList", desc := "(Ljava/util/List;)Ljava/util/List;" } : Jvm.MethodName) jdk_79_method_35_code (1 : Nat) (Option.some (Jvm.ClassFile.FieldType.object "java/util/List"))).before args0 about1 = true := code_word (m := ⟨26, 1⟩) (meth := k26m1) (c := k26c1) (by decide +kernel) rfl rfl rfl (by decide +kernel)
set_option maxRecDepth 65536 in
theorem w_c15 : (Jvm.Cond.code ({ cls := "java/util/Collections$UnmodifiableRandomAccessList", name := "<init>", desc := "(Ljava/util/List;)V" } : Jvm.MethodName) jdk_121_method_1_code (2 : Nat) (Option.none : Option Jvm.ClassFile.FieldType)).before args0 about1 = true := code_word (m := ⟨29, 0⟩) (meth := k29m0) (c := k29c0) (by decide +kernel) rfl rfl rfl (by decide +kernel)
set_option maxRecDepth 65536 in
theorem w_c16 : (Jvm.Cond.code ({ cls := "java/util/Collections$UnmodifiableList", name := "<init>", desc := "(Ljava/util/List;)V" } : Jvm.MethodName) jdk_120_method_1_code (2 : Nat) (Option.none : Option Jvm.ClassFile.FieldType)).before args0 about1 = true := code_word (m := ⟨28, 0⟩) (meth := k28m0) (c := k28c0) (by decide +kernel) rfl rfl rfl (by decide +kernel)
set_option maxRecDepth 65536 in
theorem w_c17 : (Jvm.Cond.code ({ cls := "java/util/Collections$UnmodifiableCollection", name := "<init>", desc := "(Ljava/util/Collection;)V" } : Jvm.MethodName) jdk_119_method_1_code (2 : Nat) (Option.none : Option Jvm.ClassFile.FieldType)).before args0 about1 = true := code_word (m := ⟨27, 0⟩) (meth := k27m0) (c := k27c0) (by decide +kernel) rfl rfl rfl (by decide +kernel)
set_option maxRecDepth 65536 in
theorem w_c18 : (Jvm.Cond.code ({ cls := "java/util/Collections", name := "unmodifiableMap", desc := "(Ljava/util/Map;)Ljava/util/Map;" } : Jvm.MethodName) jdk_79_method_36_code (1 : Nat) (Option.some (Jvm.ClassFile.FieldType.object "java/util/Map"))).before args0 about1 = true := code_word (m := ⟨26, 2⟩) (meth := k26m2) (c := k26c2) (by decide +kernel) rfl rfl rfl (by decide +kernel)
set_option maxRecDepth 65536 in
theorem w_c19 : (Jvm.Cond.code ({ cls := "java/util/Collections$UnmodifiableMap", name := "<init>", desc := "(Ljava/util/Map;)V" } : Jvm.MethodName) jdk_2500_method_1_code (2 : Nat) (Option.none : Option Jvm.ClassFile.FieldType)).before args0 about1 = true := code_word (m := ⟨30, 0⟩) (meth := k30m0) (c := k30c0) (by decide +kernel) rfl rfl rfl (by decide +kernel)
set_option maxRecDepth 65536 in
theorem w_c20 : (Jvm.Cond.code ({ cls := "java/util/List", name := "of", desc := "()Ljava/util/List;" } : Jvm.MethodName) jdk_40_method_36_code (0 : Nat) (Option.some (Jvm.ClassFile.FieldType.object "java/util/List"))).before args0 about1 = true := code_word (m := ⟨14, 2⟩) (meth := k14m2) (c := k14c2) (by decide +kernel) rfl rfl rfl (by decide +kernel)
set_option maxRecDepth 65536 in
theorem w_c21 : (Jvm.Cond.code ({ cls := "com/example/graft_container/graftcontainer/BeanDefinition", name := "setParentName", desc := "(Ljava/lang/String;)V" } : Jvm.MethodName) prog_7_method_10_code (2 : Nat) (Option.none : Option Jvm.ClassFile.FieldType)).before args0 about1 = true := code_word (m := ⟨9, 1⟩) (meth := k9m1) (c := k9c1) (by decide +kernel) rfl rfl rfl (by decide +kernel)
set_option maxRecDepth 65536 in
theorem w_c22 : (Jvm.Cond.code ({ cls := "com/example/graft_container/graftcontainer/BeanDefinition", name := "beginChange", desc := "()V" } : Jvm.MethodName) prog_7_method_54_code (2 : Nat) (Option.none : Option Jvm.ClassFile.FieldType)).before args0 about1 = true := code_word (m := ⟨9, 5⟩) (meth := k9m5) (c := k9c5) (by decide +kernel) rfl rfl rfl (by decide +kernel)
set_option maxRecDepth 65536 in
theorem w_c23 : (Jvm.Cond.code ({ cls := "com/example/graft_container/graftcontainer/BeanDefinition", name := "isFrozen", desc := "()Z" } : Jvm.MethodName) prog_7_method_55_code (3 : Nat) (Option.some Jvm.ClassFile.FieldType.boolean)).before args0 about1 = true := code_word (m := ⟨9, 6⟩) (meth := k9m6) (c := k9c6) (by decide +kernel) rfl rfl rfl (by decide +kernel)
set_option maxRecDepth 65536 in
theorem w_c24 : (Jvm.Cond.code ({ cls := "java/util/ImmutableCollections$ListN", name := "size", desc := "()I" } : Jvm.MethodName) jdk_45_method_3_code (1 : Nat) (Option.some Jvm.ClassFile.FieldType.int)).before args0 about1 = true := code_word (m := ⟨34, 0⟩) (meth := k34m0) (c := k34c0) (by decide +kernel) rfl rfl rfl (by decide +kernel)
set_option maxRecDepth 65536 in
theorem w_c25 : (Jvm.Cond.code ({ cls := "com/example/graft_container/graftcontainer/BeanDefinition", name := "announceChange", desc := "()V" } : Jvm.MethodName) prog_7_method_56_code (3 : Nat) (Option.none : Option Jvm.ClassFile.FieldType)).before args0 about1 = true := code_word (m := ⟨9, 7⟩) (meth := k9m7) (c := k9c7) (by decide +kernel) rfl rfl rfl (by decide +kernel)
set_option maxRecDepth 65536 in
theorem w_c26 : (Jvm.Cond.code ({ cls := "java/util/ImmutableCollections$AbstractImmutableList", name := "iterator", desc := "()Ljava/util/Iterator;" } : Jvm.MethodName) jdk_46_method_10_code (1 : Nat) (Option.some (Jvm.ClassFile.FieldType.object "java/util/Iterator"))).before args0 about1 = true := code_word (m := ⟨33, 1⟩) (meth := k33m1) (c := k33c1) (by decide +kernel) rfl rfl rfl (by decide +kernel)
set_option maxRecDepth 65536 in
theorem w_c27 : (Jvm.Cond.code ({ cls := "java/util/ImmutableCollections$ListItr", name := "<init>", desc := "(Ljava/util/List;I)V" } : Jvm.MethodName) jdk_53_method_1_code (3 : Nat) (Option.none : Option Jvm.ClassFile.FieldType)).before args0 about1 = true := code_word (m := ⟨37, 0⟩) (meth := k37m0) (c := k37c0) (by decide +kernel) rfl rfl rfl (by decide +kernel)
set_option maxRecDepth 65536 in
theorem w_c28 : (Jvm.Cond.code ({ cls := "java/util/ImmutableCollections$ListItr", name := "hasNext", desc := "()Z" } : Jvm.MethodName) jdk_53_method_3_code (1 : Nat) (Option.some Jvm.ClassFile.FieldType.boolean)).before args0 about1 = true := code_word (m := ⟨37, 1⟩) (meth := k37m1) (c := k37c1) (by decide +kernel) rfl rfl rfl (by decide +kernel)
set_option maxRecDepth 65536 in
theorem w_c29 : (Jvm.Cond.code ({ cls := "com/example/graft_container/graftcontainer/BeanDefinition", name := "requireTextOrNull", desc := "(Ljava/lang/String;Ljava/lang/String;)Ljava/lang/String;" } : Jvm.MethodName) prog_7_method_59_code (2 : Nat) (Option.some (Jvm.ClassFile.FieldType.object "java/lang/String"))).before args0 about1 = true := code_word (m := ⟨9, 8⟩) (meth := k9m8) (c := k9c8) (by decide +kernel) rfl rfl rfl (by decide +kernel)
set_option maxRecDepth 65536 in
theorem w_c30 : (Jvm.Cond.code ({ cls := "java/lang/String", name := "isBlank", desc := "()Z" } : Jvm.MethodName) jdk_42_method_117_code (1 : Nat) (Option.some Jvm.ClassFile.FieldType.boolean)).before args0 about1 = true := code_word (m := ⟨7, 4⟩) (meth := k7m4) (c := k7c4) (by decide +kernel) rfl rfl rfl (by decide +kernel)
set_option maxRecDepth 65536 in
theorem w_c31 : (Jvm.Cond.code ({ cls := "java/lang/String", name := "indexOfNonWhitespace", desc := "()I" } : Jvm.MethodName) jdk_42_method_120_code (1 : Nat) (Option.some Jvm.ClassFile.FieldType.int)).before args0 about1 = true := code_word (m := ⟨7, 5⟩) (meth := k7m5) (c := k7c5) (by decide +kernel) rfl rfl rfl (by decide +kernel)
set_option maxRecDepth 65536 in
theorem w_c32 : (Jvm.Cond.code ({ cls := "java/lang/String", name := "isLatin1", desc := "()Z" } : Jvm.MethodName) jdk_42_method_154_code (1 : Nat) (Option.some Jvm.ClassFile.FieldType.boolean)).before args0 about1 = true := code_word (m := ⟨7, 8⟩) (meth := k7m8) (c := k7c8) (by decide +kernel) rfl rfl rfl (by decide +kernel)
set_option maxRecDepth 65536 in
theorem w_c33 : (Jvm.Cond.code ({ cls := "java/lang/StringLatin1", name := "indexOfNonWhitespace", desc := "([B)I" } : Jvm.MethodName) jdk_43_method_37_code (4 : Nat) (Option.some Jvm.ClassFile.FieldType.int)).before args0 about1 = true := code_word (m := ⟨38, 2⟩) (meth := k38m2) (c := k38c2) (by decide +kernel) rfl rfl rfl (by decide +kernel)
set_option maxRecDepth 65536 in
theorem w_c34 : (Jvm.Cond.code ({ cls := "java/lang/StringLatin1", name := "getChar", desc := "([BI)C" } : Jvm.MethodName) jdk_43_method_44_code (2 : Nat) (Option.some Jvm.ClassFile.FieldType.char)).before args0 about1 = true := code_word (m := ⟨38, 3⟩) (meth := k38m3) (c := k38c3) (by decide +kernel) rfl rfl rfl (by decide +kernel)
set_option maxRecDepth 65536 in
theorem w_c35 : (Jvm.Cond.code ({ cls := "java/lang/CharacterDataLatin1", name := "isWhitespace", desc := "(I)Z" } : Jvm.MethodName) jdk_116_method_26_code (3 : Nat) (Option.some Jvm.ClassFile.FieldType.boolean)).before args0 about1 = true := code_word (m := ⟨40, 1⟩) (meth := k40m1) (c := k40c1) (by decide +kernel) rfl rfl rfl (by decide +kernel)
set_option maxRecDepth 65536 in
theorem w_c36 : (Jvm.Cond.code ({ cls := "java/lang/CharacterDataLatin1", name := "getProperties", desc := "(I)I" } : Jvm.MethodName) jdk_116_method_1_code (4 : Nat) (Option.some Jvm.ClassFile.FieldType.int)).before args0 about1 = true := code_word (m := ⟨40, 0⟩) (meth := k40m0) (c := k40c0) (by decide +kernel) rfl rfl rfl (by decide +kernel)
set_option maxRecDepth 65536 in
theorem w_c37 : (Jvm.Cond.code ({ cls := "java/lang/String", name := "length", desc := "()I" } : Jvm.MethodName) jdk_42_method_54_code (1 : Nat) (Option.some Jvm.ClassFile.FieldType.int)).before args0 about1 = true := code_word (m := ⟨7, 2⟩) (meth := k7m2) (c := k7c2) (by decide +kernel) rfl rfl rfl (by decide +kernel)
set_option maxRecDepth 65536 in
theorem w_c38 : (Jvm.Cond.code ({ cls := "java/lang/String", name := "coder", desc := "()B" } : Jvm.MethodName) jdk_42_method_152_code (1 : Nat) (Option.some Jvm.ClassFile.FieldType.byte)).before args0 about1 = true := code_word (m := ⟨7, 7⟩) (meth := k7m7) (c := k7c7) (by decide +kernel) rfl rfl rfl (by decide +kernel)
set_option maxRecDepth 65536 in
theorem w_c39 : (Jvm.Cond.code ({ cls := "com/example/graft_container/graftcontainer/BeanDefinition", name := "singletonScope", desc := "()Z" } : Jvm.MethodName) prog_7_method_19_code (1 : Nat) (Option.some Jvm.ClassFile.FieldType.boolean)).before args0 about1 = true := code_word (m := ⟨9, 4⟩) (meth := k9m4) (c := k9c4) (by decide +kernel) rfl rfl rfl (by decide +kernel)
set_option maxRecDepth 65536 in
theorem w_c40 : (Jvm.Cond.code ({ cls := "com/example/graft_container/graftcontainer/BeanDefinition", name := "getScope", desc := "()Ljava/lang/String;" } : Jvm.MethodName) prog_7_method_15_code (2 : Nat) (Option.some (Jvm.ClassFile.FieldType.object "java/lang/String"))).before args0 about1 = true := code_word (m := ⟨9, 2⟩) (meth := k9m2) (c := k9c2) (by decide +kernel) rfl rfl rfl (by decide +kernel)
set_option maxRecDepth 65536 in
theorem w_c41 : (Jvm.Cond.code ({ cls := "java/lang/String", name := "equals", desc := "(Ljava/lang/Object;)Z" } : Jvm.MethodName) jdk_42_method_66_code (3 : Nat) (Option.some Jvm.ClassFile.FieldType.boolean)).before args0 about1 = true := code_word (m := ⟨7, 3⟩) (meth := k7m3) (c := k7c3) (by decide +kernel) rfl rfl rfl (by decide +kernel)
set_option maxRecDepth 65536 in
theorem w_c42 : (Jvm.Cond.code ({ cls := "com/example/graft_container/graftcontainer/BeanDefinition", name := "setScope", desc := "(Ljava/lang/String;)V" } : Jvm.MethodName) prog_7_method_16_code (2 : Nat) (Option.none : Option Jvm.ClassFile.FieldType)).before args0 about1 = true := code_word (m := ⟨9, 3⟩) (meth := k9m3) (c := k9c3) (by decide +kernel) rfl rfl rfl (by decide +kernel)
set_option maxRecDepth 65536 in
theorem w_c43 : (Jvm.Cond.code ({ cls := "java/lang/StringLatin1", name := "equals", desc := "([B[B)Z" } : Jvm.MethodName) jdk_43_method_13_code (3 : Nat) (Option.some Jvm.ClassFile.FieldType.boolean)).before args0 about1 = true := code_word (m := ⟨38, 1⟩) (meth := k38m1) (c := k38c1) (by decide +kernel) rfl rfl rfl (by decide +kernel)
def codes1 : List Jvm.Cond := [Jvm.Cond.code x code maxLocals ret, Jvm.Cond.code ({ cls := "java/lang/String", name := "<init>", desc := "([C)V" } : Jvm.MethodName) jdk_42_method_3_code (2 : Nat) (Option.none : Option Jvm.ClassFile.FieldType), Jvm.Cond.code ({ cls := "java/lang/String", name := "<init>", desc := "([CIILjava/lang/Void;)V" } : Jvm.MethodName) jdk_42_method_149_code (6 : Nat) (Option.none : Option Jvm.ClassFile.FieldType), Jvm.Cond.code ({ cls := "java/lang/Object", name := "<init>", desc := "()V" } : Jvm.MethodName) object_method_1_code (1 : Nat) (Option.none : Option Jvm.ClassFile.FieldType), Jvm.Cond.code ({ cls := "java/lang/StringUTF16", name := "compress", desc := "([CII)[B" } : Jvm.MethodName) jdk_52_method_16_code (6 : Nat) (Option.some (Jvm.ClassFile.FieldType.array Jvm.ClassFile.FieldType.byte)), Jvm.Cond.code ({ cls := "java/lang/StringUTF16", name := "compress", desc := "([CI[BII)I" } : Jvm.MethodName) jdk_52_method_21_code (7 : Nat) (Option.some Jvm.ClassFile.FieldType.int), Jvm.Cond.code ({ cls := "java/lang/StringUTF16", name := "coderFromArrayLen", desc := "([BI)B" } : Jvm.MethodName) jdk_52_method_15_code (2 : Nat) (Option.some Jvm.ClassFile.FieldType.byte), Jvm.Cond.code ({ cls := "com/example/graft_container/graftcontainer/BeanDefinition", name := "<init>", desc := "()V" } : Jvm.MethodName) prog_7_method_1_code (1 : Nat) (Option.none : Option Jvm.ClassFile.FieldType), Jvm.Cond.code ({ cls := "java/util/ArrayList", name := "<init>", desc := "()V" } : Jvm.MethodName) jdk_38_method_2_code (1 : Nat) (Option.none : Option Jvm.ClassFile.FieldType), Jvm.Cond.code ({ cls := "java/util/AbstractList", name := "<init>", desc := "()V" } : Jvm.MethodName) jdk_39_method_1_code (1 : Nat) (Option.none : Option Jvm.ClassFile.FieldType), Jvm.Cond.code ({ cls := "java/util/AbstractCollection", name := "<init>", desc := "()V" } : Jvm.MethodName) jdk_22_method_1_code (1 : Nat) (Option.none : Option Jvm.ClassFile.FieldType), Jvm.Cond.code ({ cls := "java/util/LinkedHashMap", name := "<init>", desc := "()V" } : Jvm.MethodName) jdk_94_method_16_code (1 : Nat) (Option.none : Option Jvm.ClassFile.FieldType), Jvm.Cond.code ({ cls := "java/util/HashMap", name := "<init>", desc := "()V" } : Jvm.MethodName) jdk_69_method_7_code (1 : Nat) (Option.none : Option Jvm.ClassFile.FieldType), Jvm.Cond.code ({ cls := "java/util/AbstractMap", name := "<init>", desc := "()V" } : Jvm.MethodName) jdk_71_method_1_code (1 : Nat) (Option.none : Option Jvm.ClassFile.FieldType), Jvm.Cond.code ({ cls := "java/util/Collections", name := "unmodifiableList", desc := "(Ljava/util/List;)Ljava/util/List;" } : Jvm.MethodName) jdk_79_method_35_code (1 : Nat) (Option.some (Jvm.ClassFile.FieldType.object "java/util/List")), Jvm.Cond.code ({ cls := "java/util/Collections$UnmodifiableRandomAccessList", name := "<init>", desc := "(Ljava/util/List;)V" } : Jvm.MethodName) jdk_121_method_1_code (2 : Nat) (Option.none : Option Jvm.ClassFile.FieldType), Jvm.Cond.code ({ cls := "java/util/Collections$UnmodifiableList", name := "<init>", desc := "(Ljava/util/List;)V" } : Jvm.MethodName) jdk_120_method_1_code (2 : Nat) (Option.none : Option Jvm.ClassFile.FieldType), Jvm.Cond.code ({ cls := "java/util/Collections$UnmodifiableCollection", name := "<init>", desc := "(Ljava/util/Collection;)V" } : Jvm.MethodName) jdk_119_method_1_code (2 : Nat) (Option.none : Option Jvm.ClassFile.FieldType), Jvm.Cond.code ({ cls := "java/util/Collections", name := "unmodifiableMap", desc := "(Ljava/util/Map;)Ljava/util/Map;" } : Jvm.MethodName) jdk_79_method_36_code (1 : Nat) (Option.some (Jvm.ClassFile.FieldType.object "java/util/Map")), Jvm.Cond.code ({ cls := "java/util/Collections$UnmodifiableMap", name := "<init>", desc := "(Ljava/util/Map;)V" } : Jvm.MethodName) jdk_2500_method_1_code (2 : Nat) (Option.none : Option Jvm.ClassFile.FieldType), Jvm.Cond.code ({ cls := "java/util/List", name := "of", desc := "()Ljava/util/List;" } : Jvm.MethodName) jdk_40_method_36_code (0 : Nat) (Option.some (Jvm.ClassFile.FieldType.object "java/util/List")), Jvm.Cond.code ({ cls := "com/example/graft_container/graftcontainer/BeanDefinition", name := "setParentName", desc := "(Ljava/lang/String;)V" } : Jvm.MethodName) prog_7_method_10_code (2 : Nat) (Option.none : Option Jvm.ClassFile.FieldType), Jvm.Cond.code ({ cls := "com/example/graft_container/graftcontainer/BeanDefinition", name := "beginChange", desc := "()V" } : Jvm.MethodName) prog_7_method_54_code (2 : Nat) (Option.none : Option Jvm.ClassFile.FieldType), Jvm.Cond.code ({ cls := "com/example/graft_container/graftcontainer/BeanDefinition", name := "isFrozen", desc := "()Z" } : Jvm.MethodName) prog_7_method_55_code (3 : Nat) (Option.some Jvm.ClassFile.FieldType.boolean), Jvm.Cond.code ({ cls := "java/util/ImmutableCollections$ListN", name := "size", desc := "()I" } : Jvm.MethodName) jdk_45_method_3_code (1 : Nat) (Option.some Jvm.ClassFile.FieldType.int), Jvm.Cond.code ({ cls := "com/example/graft_container/graftcontainer/BeanDefinition", name := "announceChange", desc := "()V" } : Jvm.MethodName) prog_7_method_56_code (3 : Nat) (Option.none : Option Jvm.ClassFile.FieldType), Jvm.Cond.code ({ cls := "java/util/ImmutableCollections$AbstractImmutableList", name := "iterator", desc := "()Ljava/util/Iterator;" } : Jvm.MethodName) jdk_46_method_10_code (1 : Nat) (Option.some (Jvm.ClassFile.FieldType.object "java/util/Iterator")), Jvm.Cond.code ({ cls := "java/util/ImmutableCollections$ListItr", name := "<init>", desc := "(Ljava/util/List;I)V" } : Jvm.MethodName) jdk_53_method_1_code (3 : Nat) (Option.none : Option Jvm.ClassFile.FieldType), Jvm.Cond.code ({ cls := "java/util/ImmutableCollections$ListItr", name := "hasNext", desc := "()Z" } : Jvm.MethodName) jdk_53_method_3_code (1 : Nat) (Option.some Jvm.ClassFile.FieldType.boolean), Jvm.Cond.code ({ cls := "com/example/graft_container/graftcontainer/BeanDefinition", name := "requireTextOrNull", desc := "(Ljava/lang/String;Ljava/lang/String;)Ljava/lang/String;" } : Jvm.MethodName) prog_7_method_59_code (2 : Nat) (Option.some (Jvm.ClassFile.FieldType.object "java/lang/String")), Jvm.Cond.code ({ cls := "java/lang/String", name := "isBlank", desc := "()Z" } : Jvm.MethodName) jdk_42_method_117_code (1 : Nat) (Option.some Jvm.ClassFile.FieldType.boolean), Jvm.Cond.code ({ cls := "java/lang/String", name := "indexOfNonWhitespace", desc := "()I" } : Jvm.MethodName) jdk_42_method_120_code (1 : Nat) (Option.some Jvm.ClassFile.FieldType.int), Jvm.Cond.code ({ cls := "java/lang/String", name := "isLatin1", desc := "()Z" } : Jvm.MethodName) jdk_42_method_154_code (1 : Nat) (Option.some Jvm.ClassFile.FieldType.boolean), Jvm.Cond.code ({ cls := "java/lang/StringLatin1", name := "indexOfNonWhitespace", desc := "([B)I" } : Jvm.MethodName) jdk_43_method_37_code (4 : Nat) (Option.some Jvm.ClassFile.FieldType.int), Jvm.Cond.code ({ cls := "java/lang/StringLatin1", name := "getChar", desc := "([BI)C" } : Jvm.MethodName) jdk_43_method_44_code (2 : Nat) (Option.some Jvm.ClassFile.FieldType.char), Jvm.Cond.code ({ cls := "java/lang/CharacterDataLatin1", name := "isWhitespace", desc := "(I)Z" } : Jvm.MethodName) jdk_116_method_26_code (3 : Nat) (Option.some Jvm.ClassFile.FieldType.boolean), Jvm.Cond.code ({ cls := "java/lang/CharacterDataLatin1", name := "getProperties", desc := "(I)I" } : Jvm.MethodName) jdk_116_method_1_code (4 : Nat) (Option.some Jvm.ClassFile.FieldType.int), Jvm.Cond.code ({ cls := "java/lang/String", name := "length", desc := "()I" } : Jvm.MethodName) jdk_42_method_54_code (1 : Nat) (Option.some Jvm.ClassFile.FieldType.int), Jvm.Cond.code ({ cls := "java/lang/String", name := "coder", desc := "()B" } : Jvm.MethodName) jdk_42_method_152_code (1 : Nat) (Option.some Jvm.ClassFile.FieldType.byte), Jvm.Cond.code ({ cls := "com/example/graft_container/graftcontainer/BeanDefinition", name := "singletonScope", desc := "()Z" } : Jvm.MethodName) prog_7_method_19_code (1 : Nat) (Option.some Jvm.ClassFile.FieldType.boolean), Jvm.Cond.code ({ cls := "com/example/graft_container/graftcontainer/BeanDefinition", name := "getScope", desc := "()Ljava/lang/String;" } : Jvm.MethodName) prog_7_method_15_code (2 : Nat) (Option.some (Jvm.ClassFile.FieldType.object "java/lang/String")), Jvm.Cond.code ({ cls := "java/lang/String", name := "equals", desc := "(Ljava/lang/Object;)Z" } : Jvm.MethodName) jdk_42_method_66_code (3 : Nat) (Option.some Jvm.ClassFile.FieldType.boolean), Jvm.Cond.code ({ cls := "com/example/graft_container/graftcontainer/BeanDefinition", name := "setScope", desc := "(Ljava/lang/String;)V" } : Jvm.MethodName) prog_7_method_16_code (2 : Nat) (Option.none : Option Jvm.ClassFile.FieldType), Jvm.Cond.code ({ cls := "java/lang/StringLatin1", name := "equals", desc := "([B[B)Z" } : Jvm.MethodName) jdk_43_method_13_code (3 : Nat) (Option.some Jvm.ClassFile.FieldType.boolean)]
set_option maxRecDepth 65536 in
theorem codes_eq : words1.filter isCode = codes1 := rfl
theorem w_codes : ∀ c ∈ words1.filter isCode, c.before args0 about1 = true := by
  rw [codes_eq]
  intro c hc
  simp only [codes1, List.mem_cons, List.not_mem_nil, or_false] at hc
  rcases hc with rfl | rfl | rfl | rfl | rfl | rfl | rfl | rfl | rfl | rfl | rfl | rfl | rfl | rfl | rfl | rfl | rfl | rfl | rfl | rfl | rfl | rfl | rfl | rfl | rfl | rfl | rfl | rfl | rfl | rfl | rfl | rfl | rfl | rfl | rfl | rfl | rfl | rfl | rfl | rfl | rfl | rfl | rfl | rfl
  · exact w_c0
  · exact w_c1
  · exact w_c2
  · exact w_c3
  · exact w_c4
  · exact w_c5
  · exact w_c6
  · exact w_c7
  · exact w_c8
  · exact w_c9
  · exact w_c10
  · exact w_c11
  · exact w_c12
  · exact w_c13
  · exact w_c14
  · exact w_c15
  · exact w_c16
  · exact w_c17
  · exact w_c18
  · exact w_c19
  · exact w_c20
  · exact w_c21
  · exact w_c22
  · exact w_c23
  · exact w_c24
  · exact w_c25
  · exact w_c26
  · exact w_c27
  · exact w_c28
  · exact w_c29
  · exact w_c30
  · exact w_c31
  · exact w_c32
  · exact w_c33
  · exact w_c34
  · exact w_c35
  · exact w_c36
  · exact w_c37
  · exact w_c38
  · exact w_c39
  · exact w_c40
  · exact w_c41
  · exact w_c42
  · exact w_c43
set_option maxRecDepth 65536 in
theorem w_t1 : (words1.take 24).all (fun c => isCode c || c.before args0 about1) = true := by decide +kernel
set_option maxRecDepth 65536 in
theorem w_t2 : ((words1.drop 24).take 24).all (fun c => isCode c || c.before args0 about1) = true := by decide +kernel
set_option maxRecDepth 65536 in
theorem w_t3 : (((words1.drop 24).drop 24).take 24).all (fun c => isCode c || c.before args0 about1) = true := by decide +kernel
set_option maxRecDepth 65536 in
theorem w_t4 : ((((words1.drop 24).drop 24).drop 24).take 24).all (fun c => isCode c || c.before args0 about1) = true := by decide +kernel
set_option maxRecDepth 65536 in
theorem w_t5 : (((((words1.drop 24).drop 24).drop 24).drop 24).take 24).all (fun c => isCode c || c.before args0 about1) = true := by decide +kernel
set_option maxRecDepth 65536 in
theorem w_t6 : ((((((words1.drop 24).drop 24).drop 24).drop 24).drop 24).take 24).all (fun c => isCode c || c.before args0 about1) = true := by decide +kernel
set_option maxRecDepth 65536 in
theorem w_t7 : (((((((words1.drop 24).drop 24).drop 24).drop 24).drop 24).drop 24).take 24).all (fun c => isCode c || c.before args0 about1) = true := by decide +kernel
set_option maxRecDepth 65536 in
theorem w_t8 : ((((((((words1.drop 24).drop 24).drop 24).drop 24).drop 24).drop 24).drop 24).take 24).all (fun c => isCode c || c.before args0 about1) = true := by decide +kernel
set_option maxRecDepth 65536 in
theorem w_t9 : (((((((((words1.drop 24).drop 24).drop 24).drop 24).drop 24).drop 24).drop 24).drop 24).take 24).all (fun c => isCode c || c.before args0 about1) = true := by decide +kernel
set_option maxRecDepth 65536 in
theorem w_t10 : ((((((((((words1.drop 24).drop 24).drop 24).drop 24).drop 24).drop 24).drop 24).drop 24).drop 24).take 24).all (fun c => isCode c || c.before args0 about1) = true := by decide +kernel
set_option maxRecDepth 65536 in
theorem w_t11 : (((((((((((words1.drop 24).drop 24).drop 24).drop 24).drop 24).drop 24).drop 24).drop 24).drop 24).drop 24).take 24).all (fun c => isCode c || c.before args0 about1) = true := by decide +kernel
set_option maxRecDepth 65536 in
theorem w_t12 : ((((((((((((words1.drop 24).drop 24).drop 24).drop 24).drop 24).drop 24).drop 24).drop 24).drop 24).drop 24).drop 24).take 24).all (fun c => isCode c || c.before args0 about1) = true := by decide +kernel
set_option maxRecDepth 65536 in
theorem w_t13 : (((((((((((((words1.drop 24).drop 24).drop 24).drop 24).drop 24).drop 24).drop 24).drop 24).drop 24).drop 24).drop 24).drop 24).take 24).all (fun c => isCode c || c.before args0 about1) = true := by decide +kernel
set_option maxRecDepth 65536 in
theorem w_t14 : ((((((((((((((words1.drop 24).drop 24).drop 24).drop 24).drop 24).drop 24).drop 24).drop 24).drop 24).drop 24).drop 24).drop 24).drop 24).take 24).all (fun c => isCode c || c.before args0 about1) = true := by decide +kernel
set_option maxRecDepth 65536 in
theorem w_t15 : ((((((((((((((words1.drop 24).drop 24).drop 24).drop 24).drop 24).drop 24).drop 24).drop 24).drop 24).drop 24).drop 24).drop 24).drop 24).drop 24).all (fun c => isCode c || c.before args0 about1) = true := by decide +kernel
theorem w_tables : (allAtoms (Jvm.Cond.code x code maxLocals ret :: tables_1)).before args0 about1 = true := by
  rw [allAtoms_all]
  show words1.all (fun c => c.before args0 about1) = true
  refine all_split ?_ w_codes
  rw [← List.take_append_drop 24 words1, List.all_append, w_t1, ← List.take_append_drop 24 (words1.drop 24), List.all_append, w_t2, ← List.take_append_drop 24 ((words1.drop 24).drop 24), List.all_append, w_t3, ← List.take_append_drop 24 (((words1.drop 24).drop 24).drop 24), List.all_append, w_t4, ← List.take_append_drop 24 ((((words1.drop 24).drop 24).drop 24).drop 24), List.all_append, w_t5, ← List.take_append_drop 24 (((((words1.drop 24).drop 24).drop 24).drop 24).drop 24), List.all_append, w_t6, ← List.take_append_drop 24 ((((((words1.drop 24).drop 24).drop 24).drop 24).drop 24).drop 24), List.all_append, w_t7, ← List.take_append_drop 24 (((((((words1.drop 24).drop 24).drop 24).drop 24).drop 24).drop 24).drop 24), List.all_append, w_t8, ← List.take_append_drop 24 ((((((((words1.drop 24).drop 24).drop 24).drop 24).drop 24).drop 24).drop 24).drop 24), List.all_append, w_t9, ← List.take_append_drop 24 (((((((((words1.drop 24).drop 24).drop 24).drop 24).drop 24).drop 24).drop 24).drop 24).drop 24), List.all_append, w_t10, ← List.take_append_drop 24 ((((((((((words1.drop 24).drop 24).drop 24).drop 24).drop 24).drop 24).drop 24).drop 24).drop 24).drop 24), List.all_append, w_t11, ← List.take_append_drop 24 (((((((((((words1.drop 24).drop 24).drop 24).drop 24).drop 24).drop 24).drop 24).drop 24).drop 24).drop 24).drop 24), List.all_append, w_t12, ← List.take_append_drop 24 ((((((((((((words1.drop 24).drop 24).drop 24).drop 24).drop 24).drop 24).drop 24).drop 24).drop 24).drop 24).drop 24).drop 24), List.all_append, w_t13, ← List.take_append_drop 24 (((((((((((((words1.drop 24).drop 24).drop 24).drop 24).drop 24).drop 24).drop 24).drop 24).drop 24).drop 24).drop 24).drop 24).drop 24), List.all_append, w_t14, w_t15]
  rfl
set_option maxRecDepth 65536 in
theorem w_rest : rest_1_c.before args0 about1 = true := by decide +kernel
set_option maxRecDepth 65536 in
theorem w_case : (Jvm.Cond.and given_1 narrow_1).before args0 about1 = true := by decide +kernel
set_option maxRecDepth 65536 in
theorem w_consts : constsHeld consts_1 about1 := Jvm.Lit.constsHeldB_iff.mp (by decide +kernel)
theorem w_applies : (headSpec (Jvm.Cond.code x code maxLocals ret :: tables_1) room_1).applies x e0.platform about1 = true :=
  (Spec.applies_iff w_frames).mpr ⟨w_running, w_runnable, w_alone, w_named, w_hears, w_ripe, w_room, w_tables⟩
theorem atStart : AtStart classFile x code maxLocals ret World_1 tables_1 room_1 Calls_1 rest_1 Pre_1 launch0 p0 e0 about1 theMethod args0 below0 :=
  ⟨lists_1, trivial, launch0.admits_env _ _ _, launch0.least_env, fairChoices_fair.cas, fairChoices_fair.clock, w_frames, w_args, w_heap, w_applies, ⟨⟨18, k18, 6, by decide +kernel, rfl, (by first | exact rfl | exact ⟨rfl, _, rfl, rfl⟩)⟩, ⟨⟨28, k28, 7, by decide +kernel, rfl, (by first | exact rfl | exact ⟨rfl, _, rfl, rfl⟩)⟩, ⟨⟨29, k29, 8, by decide +kernel, rfl, (by first | exact rfl | exact ⟨rfl, _, rfl, rfl⟩)⟩, ⟨⟨25, k25, 9, by decide +kernel, rfl, (by first | exact rfl | exact ⟨rfl, _, rfl, rfl⟩)⟩, ⟨⟨30, k30, 10, by decide +kernel, rfl, (by first | exact rfl | exact ⟨rfl, _, rfl, rfl⟩)⟩, ⟨w_consts, trivial⟩⟩⟩⟩⟩⟩, w_rest, w_case⟩
end start1
theorem witness_1 : WitnessClaimed_1 := ⟨start1.p0, start1.e0, start1.about1, start1.theMethod, start1.args0, start1.below0, start1.atStart⟩
end Jvm.Pilot.@@N@@
