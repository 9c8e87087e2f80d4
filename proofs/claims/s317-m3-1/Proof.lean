import JvmDerived
import JvmDerived.Pilot.@@N@@Statement
import JvmDerived.Pilot.@@N@@Code
set_option linter.unusedVariables false
set_option linter.unusedSimpArgs false
namespace Jvm.RoadKit
open Sem ClassFile Op Lib Jvm.Stand Jvm.Free Jvm.LawKit
section New
variable {p : Program} {l : Launch} {e : Env} {R : Room} {s : State} {m : MethodId} {args : Array Value} {below : List Frame} {meth : Method} {c : Code} {T : State} {locs : List Loc} {cells slots : Nat}
theorem retI (X : Stand p l e R s m args below meth c T locs cells slots) (hx : p.tables.exec = Jvm.exec) {pc : Nat} {Ls : Array Slot} {z : Int32} {rest : List Value} (hret : meth.sig.returnType = some .int) (hd : decode c.code pc = .ok (.ireturn, 1)) {fs : List Frame}
    (hl : ∀ (f : JFrame) (acts : List Action), f.method = m → f.locked = none → f.entered = [] → (doReturn e (T.setTop f) acts (some (.int z))).1 = T.setFrames fs) : Steps p.tables e below (T.setTop (mkF m pc Ls (.int z :: rest))) (T.setFrames fs) := by
  have hm' : T.vm.method? m = some meth := X.method'
  have hn : narrow .int (.int z) = .int z := rfl
  show Steps p.tables e below (T.setTop { method := m, pc := pc, locals := Ls, stack := _ :: rest, locked := none }) _
  jvm_step X.here [X.here.top, hx, hd, hm', hret, hn]
  first | (intro acts; rw [hl _ acts rfl rfl rfl]) | rw [hl _ _ rfl rfl rfl]
  exact Steps.refl _
end New
end Jvm.RoadKit
namespace Jvm.Pilot.@@N@@
open Jvm Jvm.ClassFile Sem Op Lib Jvm.Free Jvm.Stand Jvm.LawKit Jvm.RoadKit Bundle Jvm.Pilot.@@N@@.Jvm.D
section Own
variable {p : Program} {l : Launch} {e : Env} {R : Room} {s : State} {m : MethodId} {args : Array Value} {below : List Frame} {meth : Method} {c : Code} {T : State} {locs : List Loc} {cells slots : Nat} {Z : State} {a0 : Array Value} {h h' h0 : Heap} {a b : Addr} {C nm dd : String} {v w : Value} {sl n0 : Nat} {ws ws' : List (Addr × Nat)} {ty : FieldType} {k : ClassId} {z j : Int32} {vs : List Value} {dv : Value}
/-- the cells of h stand in h' as they stood, but for the places in ws -/
def KL (h h' : Heap) (ws : List (Addr × Nat)) : Prop := h.size ≤ h'.size ∧ ∀ (x : Addr) (c : Cell), h[x]? = some c → ∃ c' : Cell, h'[x]? = some c' ∧ c'.cls = c.cls ∧ c'.vm = c.vm ∧ c'.slots.size = c.slots.size ∧ (∀ i, (x, i) ∉ ws → c'.slots[i]? = c.slots[i]?) ∧ ((∀ w ∈ ws, w.1 ≠ x) → c' = c)
theorem KL.refl (h : Heap) (ws : List (Addr × Nat)) : KL h h ws := ⟨Nat.le_refl _, fun x c q => ⟨c, q, rfl, rfl, rfl, fun _ _ => rfl, fun _ => rfl⟩⟩
theorem KL.trans (K : KL h0 h ws) (K' : KL h h' ws') (q : ∀ w ∈ ws', w ∈ ws ∨ h0.size ≤ w.1) : KL h0 h' ws := by
  refine ⟨Nat.le_trans K.1 K'.1, fun x c hx => ?_⟩
  obtain ⟨c1, a1, a2, a3, a4, a5, a6⟩ := K.2 x c hx
  obtain ⟨c2, b1, b2, b3, b4, b5, b6⟩ := K'.2 x c1 a1
  have hlt : x < h0.size := (Array.getElem?_eq_some_iff.mp hx).1
  refine ⟨c2, b1, b2.trans a2, b3.trans a3, b4.trans a4, fun i hi => ?_, fun hn => ?_⟩
  · rw [b5 i fun hm => ?_]
    · exact a5 i hi
    · rcases q _ hm with u | u
      · exact hi u
      · exact absurd hlt (Nat.not_lt.mpr u)
  · rw [b6 fun w hw e => ?_]
    · exact a6 hn
    · rcases q w hw with u | u
      · exact hn w u e
      · subst e; exact absurd hlt (Nat.not_lt.mpr u)
theorem KL.ofE (E : Ext h h') : KL h h' [] := ⟨E.1, fun x c q => ⟨c, E.2 x c q, rfl, rfl, rfl, fun _ _ => rfl, fun _ => rfl⟩⟩
theorem KL.ofW (W : Wr h h' a sl v) : KL h h' [(a, sl)] := by
  refine ⟨Nat.le_of_eq W.size.symm, fun x c q => ?_⟩
  obtain ⟨c', e1, e2, e3, e4, e5, e6, -⟩ := wr_at W q
  refine ⟨c', e1, e2, e3, e4, fun i hi => ?_, fun hn => e5 fun e => hn _ (List.mem_singleton.mpr rfl) e.symm⟩
  by_cases ex : x = a
  · subst ex; exact e6 i fun ei => hi (by rw [ei]; exact List.mem_singleton.mpr rfl)
  · rw [e5 ex]
theorem nw0 {x : Addr × Nat} : x ∉ ([] : List (Addr × Nat)) := fun q => nomatch q
theorem nwS {i i' : Nat} {L : List (Addr × Nat)} (q : a ≠ b ∨ i ≠ i') (r : (a, i) ∉ L) : (a, i) ∉ (b, i') :: L := fun y => by
  rcases List.mem_cons.mp y with u | u
  · obtain ⟨u1, u2⟩ := Prod.mk.inj u; exact q.elim (fun f => f u1) (fun f => f u2)
  · exact r u
theorem na0 {P : Addr × Nat → Prop} : ∀ w ∈ ([] : List (Addr × Nat)), P w := fun _ q => nomatch q
theorem naS {P : Addr × Nat → Prop} {x : Addr × Nat} {L : List (Addr × Nat)} (q : P x) (r : ∀ w ∈ L, P w) : ∀ w ∈ x :: L, P w := fun w y => by
  rcases List.mem_cons.mp y with u | u
  · exact u ▸ q
  · exact r w u
theorem kFld (K : KL h h' ws) (F : Fld Z h a C nm dd v) (q : (a, Jvm.RoadKit.slotOf Z C nm dd) ∉ ws) : Fld Z h' a C nm dd v := by
  obtain ⟨cell, cf, k, i, f, h1, h2, h3, h4, h5, h6, h7⟩ := F
  obtain ⟨c', e1, e2, e3, -, e5, -⟩ := K.2 a cell h1
  refine ⟨c', cf, k, i, f, e1, h2, h3, by rw [e3]; exact h4, by rw [e3]; exact h5, by rw [e2]; exact h6, ?_⟩
  rw [e5 f.slot (by simpa [Jvm.RoadKit.slotOf, h2] using q)]; exact h7
theorem kExa (K : KL h h' ws) (F : Exa Z h a C) : Exa Z h' a C := by
  obtain ⟨cell, k, h1, h2, h3, h4, h5⟩ := F
  obtain ⟨c', e1, e2, e3, e4, -⟩ := K.2 a cell h1
  exact ⟨c', k, e1, by rw [e2]; exact h2, by rw [e2]; exact h3, by rw [e3]; exact h4, by rw [e4]; exact h5⟩
theorem kArv (K : KL h h' ws) (F : Arv Z h a k ty z vs dv) (q : ∀ w ∈ ws, w.1 ≠ a) : Arv Z h' a k ty z vs dv := by
  obtain ⟨c, A, r⟩ := F
  obtain ⟨c', e1, -, -, -, -, e6⟩ := K.2 a c A.1
  exact ⟨c, ⟨(e6 q) ▸ e1, A.2⟩, r⟩
theorem kOld (K : KL h h' ws) (O : Old Z n0 h) (q : ∀ w ∈ ws, n0 ≤ w.1) : Old Z n0 h' := by
  refine ⟨O.1, Nat.le_trans O.2.1 K.1, fun x c hx => ?_⟩
  obtain ⟨c', e1, -, -, -, -, e6⟩ := K.2 x c (O.2.2 x c hx)
  have hlt : x < n0 := O.1 ▸ (Array.getElem?_eq_some_iff.mp hx).1
  rw [← e6 fun w hw e => absurd hlt (Nat.not_lt.mpr (e ▸ q w hw))]; exact e1
theorem lt_ne (q : a < h.size) (r : h.size ≤ b) : a ≠ b := Nat.ne_of_lt (Nat.lt_of_lt_of_le q r)
theorem own_wr {g : JFrame} {rest : List Value} {W : Nat} (q : g.monitorRoom = 0) (r : (rest.map fun v => v.category).sum = W) : 2 * g.monitorRoom + (rest.map fun v => v.category).sum ≤ W := by rw [q, r]; omega
theorem naO {x : Addr × Nat} {L : List (Addr × Nat)} (q : x ∈ ws ∨ sl ≤ x.1) (r : ∀ w ∈ L, w ∈ ws ∨ sl ≤ w.1) : ∀ w ∈ x :: L, w ∈ ws ∨ sl ≤ w.1 := naS (P := fun w => w ∈ ws ∨ sl ≤ w.1) q r
theorem naN {x : Addr × Nat} {L : List (Addr × Nat)} (q : x.1 ≠ a) (r : ∀ w ∈ L, w.1 ≠ a) : ∀ w ∈ x :: L, w.1 ≠ a := naS (P := fun w => w.1 ≠ a) q r
theorem own_mi {x : Addr × Nat} (i : Nat) (q : ws[i]? = some x) : x ∈ ws ∨ sl ≤ x.1 := Or.inl (List.mem_of_getElem? q)
theorem naM {Q : Addr × Nat → Prop} {L : List (Addr × Nat)} (n : Nat) (e : (L.take n).map Prod.fst = List.replicate n b) (q : ∀ i, Q (b, i)) (r : ∀ w ∈ L.drop n, Q w) : ∀ w ∈ L, Q w := fun w hw => by
  rw [← List.take_append_drop n L] at hw
  rcases List.mem_append.mp hw with u | u
  · have h1 := List.mem_map_of_mem (f := Prod.fst) u
    rw [e] at h1
    have h2 := List.eq_of_mem_replicate h1
    obtain ⟨x, i⟩ := w
    have h3 : x = b := h2
    rw [h3]; exact q i
  · exact r w u
theorem naOM {L : List (Addr × Nat)} (n : Nat) (e : (L.take n).map Prod.fst = List.replicate n b) (q : sl ≤ b) (r : ∀ w ∈ L.drop n, w ∈ ws ∨ sl ≤ w.1) : ∀ w ∈ L, w ∈ ws ∨ sl ≤ w.1 := naM (Q := fun w => w ∈ ws ∨ sl ≤ w.1) n e (fun _ => Or.inr q) r
theorem nfS {y : MethodName} (hZ : Z.Warmed39 s.vm) (w : (Cond.selects C y y).before a0 Z = true) : NotFace s y := notFace_of_selects (args := #[]) (mvT hZ w)
theorem own_static (X : Stand p l e R s m args below meth c T locs cells slots) (hx : p.tables.exec = Jvm.exec) (hZ : Z.Warmed39 s.vm) {own : String} {index : Nat} {y : MethodName} {bytes : ByteArray} {maxL : Nat} {ret : Option FieldType} {rm : Room} {Q : Option Value → Heap → List Loc → Prop} {as' : Array Value}
    (hown : s.vm.findClass own = some m.cls) (w1 : (Cond.methodLink own index y).before a0 Z = true) (w2 : (Cond.static y).before a0 Z = true) (w3 : (Cond.initialized y.cls).before a0 Z = true) (w4 : (Cond.code y bytes maxL ret).before a0 Z = true) (hy : y.cls ≠ "java/lang/invoke/MethodHandle" ∧ y.cls ≠ "java/lang/invoke/VarHandle")
    (hM : MetFree l y (head1 [Cond.code y bytes maxL ret] rm) (fun a U => a = as' ∧ Z.Warmed39 U.vm ∧ U.heap = h) (fun _ _ _ _ _ => True) (fun _ U o U' => ∃ v L, o = .returned v ∧ Q v U'.heap L ∧ FrameEnd U o U' L rm.cells rm.slots))
    (eT : T.heap = h) {W : Nat} (hR : rm.frames + 1 ≤ R.frames ∧ W + (maxL + 11) + rm.locals ≤ R.locals ∧ cells + rm.cells ≤ R.cells ∧ slots + rm.slots ≤ R.slots)
    {g : JFrame} (hg : g.method = m) (hsize : g.locals.size = c.maxLocals) {argsL rest : List Value} (hlen : ∀ sig, parseMethodDescriptor y.desc = some sig → argsL.length = sig.parameters.length) (hstack : g.stack = argsL.reverse ++ rest) (has : argsL.toArray = as') (hW : 2 * g.monitorRoom + (rest.map fun v => v.category).sum ≤ W) (hd : decode c.code g.pc = .ok (.invokestatic index, 3)) :
    ∃ (v : Option Value) (T' : State) (L : List Loc), Stand p l e R s m args below meth c T' (locs ++ L) (cells + rm.cells) (slots + rm.slots) ∧ Q v T'.heap L ∧ ∀ target, Steps p.tables e below (T'.setTop { g with pc := g.pc + 3, stack := v.toList ++ rest }) target → Steps p.tables e below (T.setTop g) target := by
  obtain ⟨v, _, ⟨T', L', k', n'⟩, -, X', ⟨L, hQ, l1, l2, l3⟩, st⟩ := Jvm.LawKit.callS X hx (y := y) hown (mvT hZ w1) (mvT hZ w2) (mvT hZ w3) (mvT hZ w4) hy (backOf (W := W) hM hZ w4 w3 hR.1 hR.2.1) (g := g) hg hsize (argsL := argsL) (rest := rest) hlen hstack hW hd (fun _ _ => ⟨has, eT, hR.2.2.1, hR.2.2.2⟩)
  dsimp only [Pt.U, Pt.locs, Pt.cells, Pt.slots] at X' l1 l2 l3 st hQ
  subst l1 l2 l3
  exact ⟨v, T', L, X', hQ, st⟩
theorem own_init (X : Stand p l e R s m args below meth c T locs cells slots) (hx : p.tables.exec = Jvm.exec) (hZ : Z.Warmed39 s.vm) {own : String} {index : Nat} {y : MethodName} {bytes : ByteArray} {maxL : Nat} {rm : Room} {Q : Option Value → Heap → List Loc → Prop} {as' : Array Value} (hy1 : y.name = "<init>")
    (hown : s.vm.findClass own = some m.cls) (w1 : (Cond.methodLink own index y).before a0 Z = true) (w2 : (Cond.instanceMethod y).before a0 Z = true) (w3 : (Cond.initialized y.cls).before a0 Z = true) (w4 : (Cond.code y bytes maxL none).before a0 Z = true) (hy : y.cls ≠ "java/lang/invoke/MethodHandle" ∧ y.cls ≠ "java/lang/invoke/VarHandle")
    (hM : MetFree l y (head1 [Cond.code y bytes maxL none] rm) (fun a U => a = as' ∧ Z.Warmed39 U.vm ∧ U.heap = h) (fun _ _ _ _ _ => True) (fun _ U o U' => ∃ v L, o = .returned v ∧ Q v U'.heap L ∧ FrameEnd U o U' L rm.cells rm.slots))
    (eT : T.heap = h) {W : Nat} (hR : rm.frames + 1 ≤ R.frames ∧ W + (maxL + 11) + rm.locals ≤ R.locals ∧ cells + rm.cells ≤ R.cells ∧ slots + rm.slots ≤ R.slots)
    {g : JFrame} (hg : g.method = m) (hsize : g.locals.size = c.maxLocals) {argsL rest : List Value} (hlen : ∀ sig, parseMethodDescriptor y.desc = some sig → argsL.length = sig.parameters.length) (hstack : g.stack = argsL.reverse ++ .ref a :: rest) (has : (.ref a :: argsL).toArray = as') (hW : 2 * g.monitorRoom + (rest.map fun v => v.category).sum ≤ W) (hd : decode c.code g.pc = .ok (.invokespecial index, 3)) :
    ∃ (v : Option Value) (T' : State) (L : List Loc), Stand p l e R s m args below meth c T' (locs ++ L) (cells + rm.cells) (slots + rm.slots) ∧ Q v T'.heap L ∧ ∀ target, Steps p.tables e below (T'.setTop { g with pc := g.pc + 3, stack := v.toList ++ rest }) target → Steps p.tables e below (T.setTop g) target := by
  obtain ⟨v, _, ⟨T', L', k', n'⟩, -, X', ⟨L, hQ, l1, l2, l3⟩, st⟩ := X.specialBack hx (y := y) hy1 hown (mvT hZ w1) (mvT hZ w2) (mvT hZ w4) hy (backOf (W := W) hM hZ w4 w3 hR.1 hR.2.1) (g := g) hg hsize (Steps.refl _) (a := a) (argsL := argsL) (rest := rest) hlen hstack hW hd (fun _ _ => ⟨has, eT, hR.2.2.1, hR.2.2.2⟩)
  dsimp only [Pt.U, Pt.locs, Pt.cells, Pt.slots] at X' l1 l2 l3 st hQ
  subst l1 l2 l3
  exact ⟨v, T', L, X', hQ, fun _ t => st.trans t⟩
theorem own_virtual (X : Stand p l e R s m args below meth c T locs cells slots) (hx : p.tables.exec = Jvm.exec) (hZ : Z.Warmed39 s.vm) {own : String} {index : Nat} {y z : MethodName} {bytes : ByteArray} {maxL : Nat} {ret : Option FieldType} {rm : Room} {Q : Option Value → Heap → List Loc → Prop} {as' : Array Value}
    (hown : s.vm.findClass own = some m.cls) (w1 : (Cond.methodLink own index y).before a0 Z = true) (w2 : (Cond.declares y).before a0 Z = true) (hnf : NotFace s y) (w5 : (Cond.selects C y z).before a0 Z = true) (w6 : (Cond.instanceMethod z).before a0 Z = true) (w3 : (Cond.initialized z.cls).before a0 Z = true) (w4 : (Cond.code z bytes maxL ret).before a0 Z = true) (hy : y.cls ≠ "java/lang/invoke/MethodHandle" ∧ y.cls ≠ "java/lang/invoke/VarHandle")
    (hM : MetFree l z (head1 [Cond.code z bytes maxL ret] rm) (fun a U => a = as' ∧ Z.Warmed39 U.vm ∧ U.heap = h) (fun _ _ _ _ _ => True) (fun _ U o U' => ∃ v L, o = .returned v ∧ Q v U'.heap L ∧ FrameEnd U o U' L rm.cells rm.slots))
    (eT : T.heap = h) (E : Exa Z h a C) {W : Nat} (hR : rm.frames + 1 ≤ R.frames ∧ W + (maxL + 11) + rm.locals ≤ R.locals ∧ cells + rm.cells ≤ R.cells ∧ slots + rm.slots ≤ R.slots)
    {g : JFrame} (hg : g.method = m) (hsize : g.locals.size = c.maxLocals) {argsL rest : List Value} (hlen : ∀ sig, parseMethodDescriptor y.desc = some sig → argsL.length = sig.parameters.length) (hstack : g.stack = argsL.reverse ++ .ref a :: rest) (has : (.ref a :: argsL).toArray = as') (hW : 2 * g.monitorRoom + (rest.map fun v => v.category).sum ≤ W) (hd : decode c.code g.pc = .ok (.invokevirtual index, 3)) :
    ∃ (v : Option Value) (T' : State) (L : List Loc), Stand p l e R s m args below meth c T' (locs ++ L) (cells + rm.cells) (slots + rm.slots) ∧ Q v T'.heap L ∧ ∀ target, Steps p.tables e below (T'.setTop { g with pc := g.pc + 3, stack := v.toList ++ rest }) target → Steps p.tables e below (T.setTop g) target := by
  obtain ⟨cq, kq, qa, qb, qc⟩ := isOf hZ eT E
  obtain ⟨v, _, ⟨T', L', k', n'⟩, -, X', ⟨L, hQ, l1, l2, l3⟩, st⟩ := X.virtualBack hx (y := y) (z := z) hown (mvT hZ w1) (mvT hZ w2) hnf (mvT hZ w5) (mvT hZ w6) hy (backOf (W := W) hM hZ w4 w3 hR.1 hR.2.1) qa qc (g := g) hg hsize (Steps.refl _) (argsL := argsL) (rest := rest) hlen hstack hW hd (fun _ _ => ⟨has, eT, hR.2.2.1, hR.2.2.2⟩)
  dsimp only [Pt.U, Pt.locs, Pt.cells, Pt.slots] at X' l1 l2 l3 st hQ
  subst l1 l2 l3
  exact ⟨v, T', L, X', hQ, fun _ t => st.trans t⟩
theorem own_mvR {U : State} {own O : String} {index : Nat} (hZ : Z.Warmed39 U.vm) (w : (Cond.fieldRef own index O nm dd).before a0 Z = true) : (Cond.fieldRef own index O nm dd).before args U = true := (Cond.fieldRef_warmed39 (s := Z) (vm' := U.vm) hZ w :)
theorem own_putFR (X : Stand p l e R s m args below meth c T locs cells slots) (hx : p.tables.exec = Jvm.exec) (hZ : Z.Warmed39 s.vm) {own O : String} {index kk : Nat} (hown : s.vm.findClass own = some m.cls) (w : (Cond.fieldRef own index O nm dd).before a0 Z = true)
    (eT : T.heap = h) {old : Value} (F : Fld Z h a O nm dd old) (E : Exa Z h a C) (L : (Cond.lays C O nm dd).before a0 Z = true) (wi : (Cond.instantiable C kk).before a0 Z = true)
    (hty : parseFieldDescriptor dd = some ty) (hn : narrow ty v = v) (hf : fits ty v = true) {g : JFrame} (hg : g.method = m) {rest : List Value} (hs : g.stack = v :: .ref a :: rest) (hd : decode c.code g.pc = .ok (.putfield index, 3)) :
    ∃ T' h', Stand p l e R s m args below meth c T' (locs ++ [⟨a, Jvm.RoadKit.slotOf Z O nm dd⟩]) cells slots ∧ T'.heap = h' ∧ Wr h h' a (Jvm.RoadKit.slotOf Z O nm dd) v ∧ ∀ target, Steps p.tables e below (T'.setTop { g with pc := g.pc + 3, stack := rest }) target → Steps p.tables e below (T.setTop g) target := by
  obtain ⟨cell, cf, k, i, f, h1, h2, h3, h4, h5, -, h7⟩ := F
  obtain ⟨cell', kc, e1, e2, e3, -⟩ := E
  cases h1.symm.trans e1
  obtain ⟨c1, k1, cf1, kf1, i1, f1, a1, a2, a3, -, -, a6, -⟩ := Laid.spec (Or.inl L)
  cases h2.symm.trans a3
  cases e2.symm.trans a1
  obtain ⟨c2, k2, i1, i2, i3, -⟩ := Cond.instantiable_spec wi
  cases e2.symm.trans i1
  cases a2.symm.trans i2
  have ht := (State.fieldFound?_type h2 hty).2
  have hfit : Z.fitsSlot cell.cls cell.vm f.slot v = true := by
    have q : Z.slotType? cell.cls cell.vm f.slot = some ty := by
      simp only [State.slotType?, a2, Option.bind_eq_bind, Option.bind_some, i3]
      cases hq : cell.vm <;> first | (rw [hq] at h5; exact Bool.noConfusion h5) | (rw [a6, ht])
    simp [State.fitsSlot, q, hf]
  have hZT : Z.Warmed39 T.vm := wtrans hZ X.warmed
  have hfit' : T.fitsSlot cell.cls cell.vm f.slot v = true := by rw [← State.fitsSlot_setVm hZT.alike] at hfit; exact hfit
  have hfin : hasFlag f.accessFlags Acc.final = false := by
    obtain ⟨_, _, _, _, _, _, -, -, b3, -, b5, -⟩ := Cond.lays_spec L
    cases h2.symm.trans b3
    exact b5
  have hownT : T.vm.findClass own = some m.cls := by rw [X.warmed.alike.findClass]; exact hown
  obtain ⟨cf', k', i', f', g1, hready⟩ := Cond.fieldRef_spec hownT (own_mvR (args := args) hZT w)
  obtain ⟨k3, g2, -⟩ := State.fieldFound?_setVm (s := Z) hZT.alike h2
  cases (show T.fieldFound? O nm dd = _ from g2).symm.trans g1
  have hlt := (Array.getElem?_eq_some_iff.mp h7).1
  have es : Jvm.RoadKit.slotOf Z O nm dd = f.slot := by simp [Jvm.RoadKit.slotOf, h2]
  rw [es]
  obtain ⟨X', st⟩ := X.putfieldReady hx hready h3 (Or.inl hfin) (show T.heap[a]? = some cell by rw [eT]; exact h1) h4 hlt (by rw [ht]; exact hn) hfit' hg hs hd
  exact ⟨_, _, X', rfl, ⟨cell, h1, h5, hlt, by rw [← eT]; rfl⟩, st⟩
end Own
/-- a body's contract -/
abbrev MF (l : Launch) (Z : State) (y : MethodName) (bytes : ByteArray) (maxL : Nat) (ret : Option FieldType) (ws : List Jvm.Cond) (rm : Room) (as' : Array Value) (h0 : Heap) (Q : Option Value → Heap → List Loc → Prop) : Prop :=
  MetFree l y (head1 (Jvm.Cond.code y bytes maxL ret :: ws) rm) (fun a U => a = as' ∧ Z.Warmed39 U.vm ∧ U.heap = h0) (fun _ _ _ _ _ => True) (fun _ U o U' => ∃ v L, o = .returned v ∧ Q v U'.heap L ∧ FrameEnd U o U' L rm.cells rm.slots)
theorem own_body {l : Launch} {Z : State} {y : MethodName} {bytes : ByteArray} {maxL : Nat} {ret : Option FieldType} {ws : List Jvm.Cond} {rm : Room} {as' : Array Value} {h0 : Heap} {Q : Option Value → Heap → List Loc → Prop} {k n : Nat} {L0 : Array Slot} (hp : plainFor y = true) (hef : ∀ m, entryFrame m as' maxL = mkF m 0 L0 []) (hk : k ≤ rm.cells) (hn : n ≤ rm.slots)
    (H : ∀ (p : Program) (e : Env) (s : State) (m : MethodId) (below : List Frame) (meth : Method) (c : Code) (s₁ : State), p.tables.exec = Jvm.exec → c.code = bytes → c.maxLocals = maxL → s.vm.findClass y.cls = some m.cls → meth.name = y.name → meth.sig.returnType = ret → Z.Warmed39 s.vm → s.heap = h0 → s₁.heap = h0 → Stand p l e rm s m as' below meth c s₁ [] 0 0 →
      ∃ (T : State) (L : List Loc) (v : Option Value), Stand p l e rm s m as' below meth c T L k n ∧ (ret = none → v = none) ∧ Q v T.heap L ∧ ∀ fs, (∀ (f : JFrame) (acts : List Action), f.method = m → f.locked = none → f.entered = [] → (doReturn e (T.setTop f) acts v).1 = T.setFrames fs) → Steps p.tables e below (s₁.setTop (mkF m 0 L0 [])) (T.setFrames fs)) :
    MetFree l y (head1 (Jvm.Cond.code y bytes maxL ret :: ws) rm) (fun a U => a = as' ∧ Z.Warmed39 U.vm ∧ U.heap = h0) (fun _ _ _ _ _ => True) (fun _ U o U' => ∃ v L, o = .returned v ∧ Q v U'.heap L ∧ FrameEnd U o U' L k n) := by
  refine MetFree.of_bodySF hp hisR ?_
  intro p e s m args below meth c s₁ Bd hml0 hP hK
  obtain ⟨rfl, hZ, hh⟩ := hP
  have e0 : s₁.heap = h0 := by rw [← hh, Bd.state]; rfl
  have hnm := (name_of_methodNamed Bd.named Bd.method).1
  obtain ⟨T, L, v, X, hv, hQ, st⟩ := H p e s m below meth c s₁ Bd.exec Bd.bytes hml0 (findClass_of_methodNamed Bd.named) hnm Bd.returns hZ hh e0 (Stand.of_body Bd)
  obtain ⟨fs, hr, hrun, hended, hW, hsame⟩ := X.leave (v := v) (fun h => hv (Bd.returns.symm.trans h)) Bd.notSynchronized
  refine ⟨_, _, castTop (hef m) (st fs hr), hrun, hended, v, L, rfl, ?_, ⟨_, rfl⟩, hW, hsame⟩
  exact hQ
theorem own_law {l : Launch} {Z : State} {y : MethodName} {bytes : ByteArray} {maxL : Nat} {ret : Option FieldType} {ws : List Jvm.Cond} {rm : Room} {as' : Array Value} {h0 : Heap} {Q : Option Value → List Loc → Prop} {k n k' n' : Nat} {L0 : Array Slot} (hp : plainFor y = true) (hef : ∀ m, entryFrame m as' maxL = mkF m 0 L0 []) (hk : k ≤ k') (hn : n ≤ n')
    (H : ∀ (p : Program) (e : Env) (s : State) (m : MethodId) (below : List Frame) (meth : Method) (c : Code) (s₁ : State), p.tables.exec = Jvm.exec → c.code = bytes → c.maxLocals = maxL → s.vm.findClass y.cls = some m.cls → meth.name = y.name → meth.sig.returnType = ret → Z.Warmed39 s.vm → s.heap = h0 → s₁.heap = h0 → Stand p l e rm s m as' below meth c s₁ [] 0 0 →
      ∃ (T : State) (L : List Loc) (v : Option Value), Stand p l e rm s m as' below meth c T L k n ∧ (ret = none → v = none) ∧ Q v L ∧ ∀ fs, (∀ (f : JFrame) (acts : List Action), f.method = m → f.locked = none → f.entered = [] → (doReturn e (T.setTop f) acts v).1 = T.setFrames fs) → Steps p.tables e below (s₁.setTop (mkF m 0 L0 [])) (T.setFrames fs)) :
    MetFree l y (head1 (Jvm.Cond.code y bytes maxL ret :: ws) rm) (fun a U => a = as' ∧ Z.Warmed39 U.vm ∧ U.heap = h0) (fun _ _ _ _ _ => True) (fun _ U o U' => ∃ v L, o = .returned v ∧ Q v L ∧ FrameEnd U o U' L k' n') := by
  refine MetFree.of_bodySF hp hisR ?_
  intro p e s m args below meth c s₁ Bd hml0 hP hK
  obtain ⟨rfl, hZ, hh⟩ := hP
  have e0 : s₁.heap = h0 := by rw [← hh, Bd.state]; rfl
  have hnm := (name_of_methodNamed Bd.named Bd.method).1
  obtain ⟨T, L, v, X, hv, hQ, st⟩ := H p e s m below meth c s₁ Bd.exec Bd.bytes hml0 (findClass_of_methodNamed Bd.named) hnm Bd.returns hZ hh e0 (Stand.of_body Bd)
  obtain ⟨fs, hr, hrun, hended, hW, hsame⟩ := X.leave (v := v) (fun h => hv (Bd.returns.symm.trans h)) Bd.notSynchronized
  refine ⟨_, _, castTop (hef m) (st fs hr), hrun, hended, v, L, rfl, ?_, ⟨_, rfl⟩, hW, hsame.mono hk hn⟩
  exact hQ
section OwnS
variable {p : Program} {l : Launch} {e : Env} {R : Room} {s : State} {vm0 : Vm} {m : MethodId} {args : Array Value} {below : List Frame} {meth : Method} {c : Code} {T : State} {locs : List Loc} {cells slots : Nat} {Z : State} {a0 : Array Value} {h h' h0 : Heap} {a b : Addr} {C nm dd : String} {v w : Value} {sl n0 : Nat}
theorem own_since (s : State) : s.Since s.vm s.heap.size := (State.WarmedH.refl s).since _
theorem own_REmono {s t : State} {o : Outcome} {L : List Loc} {k n k' n' : Nat} (h : ReturnedEndW s o t L k n) (hk : k ≤ k') (hn : n ≤ n') : ReturnedEndW s o t L k' n' := ⟨h.1, h.2.1, h.2.2.1, h.2.2.2.mono hk hn⟩
theorem own_Sface (X : Stand p l e R (s.setVm vm0) m args below meth c T locs cells slots) (hx : p.tables.exec = Jvm.exec) (hZ : Z.Warmed39 vm0) {own : String} {index count : Nat} {y z : MethodName} {bytes : ByteArray} {maxL : Nat} {ret : Option FieldType} {rm : Room} {Q : Option Value → Heap → List Loc → Prop} {as' : Array Value}
    (hown : vm0.findClass own = some m.cls) (w1 : (Cond.methodLink own index y).before a0 Z = true) (w2 : (Cond.declares y).before a0 Z = true) (wf : (Cond.interfaceMethod y.cls y.cls y.name y.desc).before args (s.setVm vm0) = true) (w5 : (Cond.selects C y z).before a0 Z = true) (w6 : (Cond.instanceMethod z).before a0 Z = true) (w7 : (Cond.publicMethod z).before a0 Z = true) (w8 : (Cond.unhidden C y.name y.desc).before a0 Z = true) (w9 : (Cond.castable C y.cls).before a0 Z = true) (w3 : (Cond.initialized z.cls).before a0 Z = true) (w4 : (Cond.code z bytes maxL ret).before a0 Z = true) (hy : y.cls ≠ "java/lang/invoke/MethodHandle" ∧ y.cls ≠ "java/lang/invoke/VarHandle")
    (hM : MetFree l z (head1 [Cond.code z bytes maxL ret] rm) (fun a U => a = as' ∧ Z.Warmed39 U.vm ∧ U.heap = h) (fun _ _ _ _ _ => True) (fun _ U o U' => ∃ v L, o = .returned v ∧ Q v U'.heap L ∧ ReturnedEndW U o U' L rm.cells rm.slots))
    (eT : T.heap = h) (E : Exa Z h a C) {W : Nat} (hR : rm.frames + 1 ≤ R.frames ∧ W + (maxL + 11) + rm.locals ≤ R.locals ∧ cells + rm.cells ≤ R.cells ∧ slots + rm.slots ≤ R.slots)
    {g : JFrame} (hg : g.method = m) (hsize : g.locals.size = c.maxLocals) {argsL rest : List Value} (hlen : ∀ sig, parseMethodDescriptor y.desc = some sig → argsL.length = sig.parameters.length) (hstack : g.stack = argsL.reverse ++ .ref a :: rest) (has : (.ref a :: argsL).toArray = as') (hW : 2 * g.monitorRoom + (rest.map fun v => v.category).sum ≤ W) (hd : decode c.code g.pc = .ok (.invokeinterface index count, 5)) {k0 : Nat} (hS : s.Since vm0 k0) (hk : k0 ≤ h.size) :
    ∃ (v : Option Value) (T' : State) (L : List Loc), Stand p l e R (s.setVm T'.vm) m args below meth c T' (locs ++ L) (cells + rm.cells) (slots + rm.slots) ∧ s.Since T'.vm T'.heap.size ∧ T'.heap.size ≤ T'.heap.size ∧ Z.Warmed39 T'.vm ∧ T'.vm.findClass own = some m.cls ∧ Q v T'.heap L ∧ ∀ target, Steps p.tables e below (T'.setTop { g with pc := g.pc + 5, stack := v.toList ++ rest }) target → Steps p.tables e below (T.setTop g) target := by
  obtain ⟨cq, kq, qa, qb, qc⟩ := isOf (s := s.setVm vm0) hZ eT E
  obtain ⟨v, _, ⟨T', L', k', n'⟩, -, X', hS', hg', ⟨L, hQ, l1, l2, l3⟩, st⟩ := X.interfaceBackS hx (xi := y) (y := z) hown (mvT (s := s.setVm vm0) hZ w1) (mvT (s := s.setVm vm0) hZ w2) wf (mvT (s := s.setVm vm0) hZ w5) (mvT (s := s.setVm vm0) hZ w6) (mvT (s := s.setVm vm0) hZ w7) (mvT (s := s.setVm vm0) hZ w8) (mvT (s := s.setVm vm0) hZ w9) hy (backOfS (s := s.setVm vm0) (W := W) hM hZ w4 w3 hR.1 hR.2.1) qa qb qc (g := g) hg hsize (Steps.refl _) (argsL := argsL) (rest := rest) hlen hstack hW hd (fun _ _ => ⟨has, eT, hR.2.2.1, hR.2.2.2⟩)
  dsimp only [Pt.U, Pt.locs, Pt.cells, Pt.slots] at X' hS' hg' l1 l2 l3 st hQ
  subst l1 l2 l3
  have q := hS.trans hS' (Nat.le_trans hk (by rw [← eT]; exact hg'))
  exact ⟨v, T', L, X', q, Nat.le_refl _, State.Warmed39.trans (t := s.setVm vm0) hZ hS'.1, by rw [hS'.1.alike.findClass]; exact hown, hQ, fun _ t => st.trans t⟩
end OwnS
theorem own_bodyS {l : Launch} {Z : State} {y : MethodName} {bytes : ByteArray} {maxL : Nat} {ret : Option FieldType} {ws : List Jvm.Cond} {rm : Room} {as' : Array Value} {h0 : Heap} {Q : Option Value → Heap → List Loc → Prop} {k n k' n' : Nat} {L0 : Array Slot} (hp : plainFor y = true) (hef : ∀ m, entryFrame m as' maxL = mkF m 0 L0 []) (hk : k ≤ k') (hn : n ≤ n')
    (H : ∀ (p : Program) (e : Env) (s : State) (m : MethodId) (below : List Frame) (meth : Method) (c : Code) (s₁ : State), p.tables.exec = Jvm.exec → c.code = bytes → c.maxLocals = maxL → s.vm.findClass y.cls = some m.cls → meth.name = y.name → meth.sig.returnType = ret → Z.Warmed39 s.vm → s₁.heap = h0 → s.Since s.vm s.heap.size → s.heap.size ≤ h0.size → Stand p l e rm (s.setVm s.vm) m as' below meth c s₁ [] 0 0 →
      ∃ (T : State) (L : List Loc) (v : Option Value) (vm1 : Vm) (n1 : Nat), Stand p l e rm (s.setVm vm1) m as' below meth c T L k n ∧ s.Since vm1 n1 ∧ n1 ≤ T.heap.size ∧ (ret = none → v = none) ∧ Q v T.heap L ∧ ∀ fs, (∀ (f : JFrame) (acts : List Action), f.method = m → f.locked = none → f.entered = [] → (doReturn e (T.setTop f) acts v).1 = T.setFrames fs) → Steps p.tables e below (s₁.setTop (mkF m 0 L0 [])) (T.setFrames fs)) :
    MetFree l y (head1 (Jvm.Cond.code y bytes maxL ret :: ws) rm) (fun a U => a = as' ∧ Z.Warmed39 U.vm ∧ U.heap = h0) (fun _ _ _ _ _ => True) (fun _ U o U' => ∃ v L, o = .returned v ∧ Q v U'.heap L ∧ ReturnedEndW U o U' L k' n') := by
  refine MetFree.of_bodySF hp hisR ?_
  intro p e s m args below meth c s₁ Bd hml0 hP hK
  obtain ⟨rfl, hZ, hh⟩ := hP
  have e0 : s₁.heap = h0 := by rw [← hh, Bd.state]; rfl
  have hnm := (name_of_methodNamed Bd.named Bd.method).1
  obtain ⟨T, L, v, vm1, n1, X, hS, hn1, hv, hQ, st⟩ := H p e s m below meth c s₁ Bd.exec Bd.bytes hml0 (findClass_of_methodNamed Bd.named) hnm Bd.returns hZ e0 (own_since s) (Nat.le_of_eq (congrArg Array.size hh)) (Stand.of_body Bd)
  obtain ⟨fs, hr, hrun, hended, hRE⟩ := X.leaveW hS hn1 (v := v) (fun h => hv (Bd.returns.symm.trans h)) Bd.notSynchronized
  exact ⟨_, _, castTop (hef m) (st fs hr), hrun, hended, v, L, rfl, hQ, own_REmono hRE hk hn⟩
section OwnH
variable {p : Program} {l : Launch} {e : Env} {R : Room} {s : State} {vm0 vm : Vm} {m : MethodId} {args : Array Value} {below : List Frame} {meth : Method} {c : Code} {T : State} {locs : List Loc} {cells slots : Nat} {Z : State} {a0 : Array Value} {h h' h0 : Heap} {a b : Addr} {C nm dd : String} {v w : Value} {sl n0 : Nat} {EL : List (String × Nat)}
theorem own_chK {ws : List (Addr × Nat)} (K : KL h h' ws) (hs : ∀ w ∈ ws, Safe Z EL vm h w.1) (H : CHv Z EL vm h) : CHr Z EL vm h vm h' ∧ ∀ x, Safe Z EL vm h x → Safe Z EL vm h' x := by
  have q := H.step (h' := h') (fun y B cell hy => by
    obtain ⟨c', r1, -, -, -, -, r6⟩ := K.2 y cell hy
    rw [r1, r6 fun w hw e => hs w hw (by rw [e]; exact B)])
  exact ⟨⟨q.1, K.1, fun y b => Or.inl (q.2 y b)⟩, fun x S B => S (q.2 x B)⟩
theorem sf0 {P : Addr → Prop} : ∀ x ∈ ([] : List Addr), P x := fun _ q => nomatch q
theorem sfS {x : Addr} {L : List Addr} (q1 : Safe Z EL vm h x) (q2 : x < h.size) (r : ∀ y ∈ L, Safe Z EL vm h y ∧ y < h.size) : ∀ y ∈ x :: L, Safe Z EL vm h y ∧ y < h.size := fun y hy => by
  rcases List.mem_cons.mp hy with u | u
  · exact u ▸ ⟨q1, q2⟩
  · exact r y u
theorem own_backH {y : MethodName} {bytes : ByteArray} {maxL : Nat} {ret : Option FieldType} {rm : Room} {len W : Nat} {as' : Array Value} {SF : List Addr} {Q : Option Value → Heap → List Loc → Prop}
    (hM : MetFree l y (head1 [Cond.code y bytes maxL ret] rm) (fun a U => a = as' ∧ Z.Warmed39 U.vm ∧ U.heap = h ∧ CHv Z EL U.vm h ∧ ∀ x ∈ SF, Safe Z EL U.vm h x) (fun _ _ _ _ _ => True) (fun _ U o U' => ∃ v L, o = .returned v ∧ Q v U'.heap L ∧ CHr Z EL U.vm U.heap U'.vm U'.heap ∧ ReturnedEndW U o U' L rm.cells rm.slots))
    (hZ : Z.Warmed39 vm0) (wc : (Cond.code y bytes maxL ret).before a0 Z = true) (wz : (Cond.initialized y.cls).before a0 Z = true) (hf : rm.frames + 1 ≤ R.frames) (hl : W + (maxL + 11) + rm.locals ≤ R.locals) (hEL : EW Z a0 EL) (H : CHv Z EL vm0 h) (hSF : ∀ x ∈ SF, Safe Z EL vm0 h x ∧ x < h.size) :
    BackS l R p e below (s.setVm vm0) args y len W (fun A a => a = as' ∧ A.U.heap = h ∧ A.cells + rm.cells ≤ R.cells ∧ A.slots + rm.slots ≤ R.slots)
      (fun A _ v B => ∃ L, Q v B.U.heap L ∧ B.locs = A.locs ++ L ∧ B.cells = A.cells + rm.cells ∧ B.slots = A.slots + rm.slots ∧ CHr Z EL vm0 h B.U.vm B.U.heap) := by
  refine BackS.of_freeW (bytes := bytes) (maxL := maxL) (ret := ret) (E := fun _ first o t L k n => k = rm.cells ∧ n = rm.slots ∧ (∃ v, o = .returned v ∧ Q v t.heap L) ∧ CHr Z EL first.vm first.heap t.vm t.heap) hM hf hl ?_ ?_ (fun _ _ _ _ _ _ _ _ _ => trivial) ?_ ?_
  · intro m meth c A a Y hp
    have hU : Z.Warmed39 A.U.vm := wtrans (s := s.setVm vm0) hZ Y.warmed
    exact ⟨by show (Cond.and _ .tt).before a A.U = true; rw [Cond.before_and, mv hU wc]; rfl, mv hU wc, mv hU wz, hp.2.2.1, hp.2.2.2⟩
  · intro m meth c A a g mk Y hp
    have q := CHv.at Y hZ hEL H
    exact ⟨hp.1, wtrans (s := s.setVm vm0) hZ Y.warmed, hp.2.1, q.1, fun x hx => q.safe (hSF x hx).2 (hSF x hx).1⟩
  · intro _ _ _ _ ⟨v, L, h1, h2, h3, h4⟩
    exact ⟨L, _, _, h4, rfl, rfl, ⟨v, h1, h2⟩, h3⟩
  · intro m meth c A a g mk v t L k n Y hp _ _ ⟨e1, e2, ⟨v', e3, e4⟩, e5⟩
    cases e3; subst e1 e2
    refine ⟨L, e4, rfl, rfl, rfl, (CHv.at Y hZ hEL H).trans ?_⟩
    rw [← hp.2.1]; exact e5
theorem naF {x : Addr × Nat} {L : List (Addr × Nat)} (q : Safe Z EL vm h x.1) (r : ∀ w ∈ L, Safe Z EL vm h w.1) : ∀ w ∈ x :: L, Safe Z EL vm h w.1 := naS (P := fun w => Safe Z EL vm h w.1) q r
theorem own_Hstatic (X : Stand p l e R (s.setVm vm0) m args below meth c T locs cells slots) (hx : p.tables.exec = Jvm.exec) (hZ : Z.Warmed39 vm0) {own : String} {index : Nat} {y : MethodName} {bytes : ByteArray} {maxL : Nat} {ret : Option FieldType} {rm : Room} {Q : Option Value → Heap → List Loc → Prop} {as' : Array Value} {SF : List Addr}
    (hown : vm0.findClass own = some m.cls) (w1 : (Cond.methodLink own index y).before a0 Z = true) (w2 : (Cond.static y).before a0 Z = true) (w3 : (Cond.initialized y.cls).before a0 Z = true) (w4 : (Cond.code y bytes maxL ret).before a0 Z = true) (hy : y.cls ≠ "java/lang/invoke/MethodHandle" ∧ y.cls ≠ "java/lang/invoke/VarHandle")
    (hM : MetFree l y (head1 [Cond.code y bytes maxL ret] rm) (fun a U => a = as' ∧ Z.Warmed39 U.vm ∧ U.heap = h ∧ CHv Z EL U.vm h ∧ ∀ x ∈ SF, Safe Z EL U.vm h x) (fun _ _ _ _ _ => True) (fun _ U o U' => ∃ v L, o = .returned v ∧ Q v U'.heap L ∧ CHr Z EL U.vm U.heap U'.vm U'.heap ∧ ReturnedEndW U o U' L rm.cells rm.slots))
    (eT : T.heap = h) {W : Nat} (hR : rm.frames + 1 ≤ R.frames ∧ W + (maxL + 11) + rm.locals ≤ R.locals ∧ cells + rm.cells ≤ R.cells ∧ slots + rm.slots ≤ R.slots)
    {g : JFrame} (hg : g.method = m) (hsize : g.locals.size = c.maxLocals) {argsL rest : List Value} (hlen : ∀ sig, parseMethodDescriptor y.desc = some sig → argsL.length = sig.parameters.length) (hstack : g.stack = argsL.reverse ++ rest) (has : argsL.toArray = as') (hW : 2 * g.monitorRoom + (rest.map fun v => v.category).sum ≤ W) (hd : decode c.code g.pc = .ok (.invokestatic index, 3)) {k0 : Nat} (hS : s.Since vm0 k0) (hk : k0 ≤ h.size) (hEL : EW Z a0 EL) (H : CHv Z EL vm0 h) (hSF : ∀ x ∈ SF, Safe Z EL vm0 h x ∧ x < h.size) :
    ∃ (v : Option Value) (T' : State) (L : List Loc), Stand p l e R (s.setVm T'.vm) m args below meth c T' (locs ++ L) (cells + rm.cells) (slots + rm.slots) ∧ s.Since T'.vm T'.heap.size ∧ T'.heap.size ≤ T'.heap.size ∧ Z.Warmed39 T'.vm ∧ T'.vm.findClass own = some m.cls ∧ Q v T'.heap L ∧ CHr Z EL vm0 h T'.vm T'.heap ∧ ∀ target, Steps p.tables e below (T'.setTop { g with pc := g.pc + 3, stack := v.toList ++ rest }) target → Steps p.tables e below (T.setTop g) target := by
  obtain ⟨v, _, ⟨T', L', k', n'⟩, -, X', hS', hg', ⟨L, hQ, l1, l2, l3, hC⟩, st⟩ := callSS X hx (y := y) hown (mvT (s := s.setVm vm0) hZ w1) (mvT (s := s.setVm vm0) hZ w2) (mvT (s := s.setVm vm0) hZ w3) (mvT (s := s.setVm vm0) hZ w4) hy (own_backH (s := s) (W := W) hM hZ w4 w3 hR.1 hR.2.1 hEL H hSF) (g := g) hg hsize (argsL := argsL) (rest := rest) hlen hstack hW hd (fun _ _ => ⟨has, eT, hR.2.2.1, hR.2.2.2⟩)
  dsimp only [Pt.U, Pt.locs, Pt.cells, Pt.slots] at X' hS' hg' l1 l2 l3 st hQ hC
  subst l1 l2 l3
  have q := hS.trans hS' (Nat.le_trans hk (by rw [← eT]; exact hg'))
  exact ⟨v, T', L, X', q, Nat.le_refl _, State.Warmed39.trans (t := s.setVm vm0) hZ hS'.1, by rw [hS'.1.alike.findClass]; exact hown, hQ, hC, fun _ t => st.trans t⟩
theorem own_Hinit (X : Stand p l e R (s.setVm vm0) m args below meth c T locs cells slots) (hx : p.tables.exec = Jvm.exec) (hZ : Z.Warmed39 vm0) {own : String} {index : Nat} {y : MethodName} {bytes : ByteArray} {maxL : Nat} {rm : Room} {Q : Option Value → Heap → List Loc → Prop} {as' : Array Value} {SF : List Addr} (hy1 : y.name = "<init>")
    (hown : vm0.findClass own = some m.cls) (w1 : (Cond.methodLink own index y).before a0 Z = true) (w2 : (Cond.instanceMethod y).before a0 Z = true) (w3 : (Cond.initialized y.cls).before a0 Z = true) (w4 : (Cond.code y bytes maxL none).before a0 Z = true) (hy : y.cls ≠ "java/lang/invoke/MethodHandle" ∧ y.cls ≠ "java/lang/invoke/VarHandle")
    (hM : MetFree l y (head1 [Cond.code y bytes maxL none] rm) (fun a U => a = as' ∧ Z.Warmed39 U.vm ∧ U.heap = h ∧ CHv Z EL U.vm h ∧ ∀ x ∈ SF, Safe Z EL U.vm h x) (fun _ _ _ _ _ => True) (fun _ U o U' => ∃ v L, o = .returned v ∧ Q v U'.heap L ∧ CHr Z EL U.vm U.heap U'.vm U'.heap ∧ ReturnedEndW U o U' L rm.cells rm.slots))
    (eT : T.heap = h) {W : Nat} (hR : rm.frames + 1 ≤ R.frames ∧ W + (maxL + 11) + rm.locals ≤ R.locals ∧ cells + rm.cells ≤ R.cells ∧ slots + rm.slots ≤ R.slots)
    {g : JFrame} (hg : g.method = m) (hsize : g.locals.size = c.maxLocals) {argsL rest : List Value} (hlen : ∀ sig, parseMethodDescriptor y.desc = some sig → argsL.length = sig.parameters.length) (hstack : g.stack = argsL.reverse ++ .ref a :: rest) (has : (.ref a :: argsL).toArray = as') (hW : 2 * g.monitorRoom + (rest.map fun v => v.category).sum ≤ W) (hd : decode c.code g.pc = .ok (.invokespecial index, 3)) {k0 : Nat} (hS : s.Since vm0 k0) (hk : k0 ≤ h.size) (hEL : EW Z a0 EL) (H : CHv Z EL vm0 h) (hSF : ∀ x ∈ SF, Safe Z EL vm0 h x ∧ x < h.size) :
    ∃ (v : Option Value) (T' : State) (L : List Loc), Stand p l e R (s.setVm T'.vm) m args below meth c T' (locs ++ L) (cells + rm.cells) (slots + rm.slots) ∧ s.Since T'.vm T'.heap.size ∧ T'.heap.size ≤ T'.heap.size ∧ Z.Warmed39 T'.vm ∧ T'.vm.findClass own = some m.cls ∧ Q v T'.heap L ∧ CHr Z EL vm0 h T'.vm T'.heap ∧ ∀ target, Steps p.tables e below (T'.setTop { g with pc := g.pc + 3, stack := v.toList ++ rest }) target → Steps p.tables e below (T.setTop g) target := by
  obtain ⟨v, _, ⟨T', L', k', n'⟩, -, X', hS', hg', ⟨L, hQ, l1, l2, l3, hC⟩, st⟩ := X.specialBackS hx (y := y) hy1 hown (mvT (s := s.setVm vm0) hZ w1) (mvT (s := s.setVm vm0) hZ w2) (mvT (s := s.setVm vm0) hZ w4) hy (own_backH (s := s) (W := W) hM hZ w4 w3 hR.1 hR.2.1 hEL H hSF) (g := g) hg hsize (Steps.refl _) (a := a) (argsL := argsL) (rest := rest) hlen hstack hW hd (fun _ _ => ⟨has, eT, hR.2.2.1, hR.2.2.2⟩)
  dsimp only [Pt.U, Pt.locs, Pt.cells, Pt.slots] at X' hS' hg' l1 l2 l3 st hQ hC
  subst l1 l2 l3
  have q := hS.trans hS' (Nat.le_trans hk (by rw [← eT]; exact hg'))
  exact ⟨v, T', L, X', q, Nat.le_refl _, State.Warmed39.trans (t := s.setVm vm0) hZ hS'.1, by rw [hS'.1.alike.findClass]; exact hown, hQ, hC, fun _ t => st.trans t⟩
theorem own_Hface (X : Stand p l e R (s.setVm vm0) m args below meth c T locs cells slots) (hx : p.tables.exec = Jvm.exec) (hZ : Z.Warmed39 vm0) {own : String} {index count : Nat} {y z : MethodName} {bytes : ByteArray} {maxL : Nat} {ret : Option FieldType} {rm : Room} {Q : Option Value → Heap → List Loc → Prop} {as' : Array Value} {SF : List Addr}
    (hown : vm0.findClass own = some m.cls) (w1 : (Cond.methodLink own index y).before a0 Z = true) (w2 : (Cond.declares y).before a0 Z = true) (wf : (Cond.interfaceMethod y.cls y.cls y.name y.desc).before args (s.setVm vm0) = true) (w5 : (Cond.selects C y z).before a0 Z = true) (w6 : (Cond.instanceMethod z).before a0 Z = true) (w7 : (Cond.publicMethod z).before a0 Z = true) (w8 : (Cond.unhidden C y.name y.desc).before a0 Z = true) (w9 : (Cond.castable C y.cls).before a0 Z = true) (w3 : (Cond.initialized z.cls).before a0 Z = true) (w4 : (Cond.code z bytes maxL ret).before a0 Z = true) (hy : y.cls ≠ "java/lang/invoke/MethodHandle" ∧ y.cls ≠ "java/lang/invoke/VarHandle")
    (hM : MetFree l z (head1 [Cond.code z bytes maxL ret] rm) (fun a U => a = as' ∧ Z.Warmed39 U.vm ∧ U.heap = h ∧ CHv Z EL U.vm h ∧ ∀ x ∈ SF, Safe Z EL U.vm h x) (fun _ _ _ _ _ => True) (fun _ U o U' => ∃ v L, o = .returned v ∧ Q v U'.heap L ∧ CHr Z EL U.vm U.heap U'.vm U'.heap ∧ ReturnedEndW U o U' L rm.cells rm.slots))
    (eT : T.heap = h) (E : Exa Z h a C) {W : Nat} (hR : rm.frames + 1 ≤ R.frames ∧ W + (maxL + 11) + rm.locals ≤ R.locals ∧ cells + rm.cells ≤ R.cells ∧ slots + rm.slots ≤ R.slots)
    {g : JFrame} (hg : g.method = m) (hsize : g.locals.size = c.maxLocals) {argsL rest : List Value} (hlen : ∀ sig, parseMethodDescriptor y.desc = some sig → argsL.length = sig.parameters.length) (hstack : g.stack = argsL.reverse ++ .ref a :: rest) (has : (.ref a :: argsL).toArray = as') (hW : 2 * g.monitorRoom + (rest.map fun v => v.category).sum ≤ W) (hd : decode c.code g.pc = .ok (.invokeinterface index count, 5)) {k0 : Nat} (hS : s.Since vm0 k0) (hk : k0 ≤ h.size) (hEL : EW Z a0 EL) (H : CHv Z EL vm0 h) (hSF : ∀ x ∈ SF, Safe Z EL vm0 h x ∧ x < h.size) :
    ∃ (v : Option Value) (T' : State) (L : List Loc), Stand p l e R (s.setVm T'.vm) m args below meth c T' (locs ++ L) (cells + rm.cells) (slots + rm.slots) ∧ s.Since T'.vm T'.heap.size ∧ T'.heap.size ≤ T'.heap.size ∧ Z.Warmed39 T'.vm ∧ T'.vm.findClass own = some m.cls ∧ Q v T'.heap L ∧ CHr Z EL vm0 h T'.vm T'.heap ∧ ∀ target, Steps p.tables e below (T'.setTop { g with pc := g.pc + 5, stack := v.toList ++ rest }) target → Steps p.tables e below (T.setTop g) target := by
  obtain ⟨cq, kq, qa, qb, qc⟩ := isOf (s := s.setVm vm0) hZ eT E
  obtain ⟨v, _, ⟨T', L', k', n'⟩, -, X', hS', hg', ⟨L, hQ, l1, l2, l3, hC⟩, st⟩ := X.interfaceBackS hx (xi := y) (y := z) hown (mvT (s := s.setVm vm0) hZ w1) (mvT (s := s.setVm vm0) hZ w2) wf (mvT (s := s.setVm vm0) hZ w5) (mvT (s := s.setVm vm0) hZ w6) (mvT (s := s.setVm vm0) hZ w7) (mvT (s := s.setVm vm0) hZ w8) (mvT (s := s.setVm vm0) hZ w9) hy (own_backH (s := s) (W := W) hM hZ w4 w3 hR.1 hR.2.1 hEL H hSF) qa qb qc (g := g) hg hsize (Steps.refl _) (argsL := argsL) (rest := rest) hlen hstack hW hd (fun _ _ => ⟨has, eT, hR.2.2.1, hR.2.2.2⟩)
  dsimp only [Pt.U, Pt.locs, Pt.cells, Pt.slots] at X' hS' hg' l1 l2 l3 st hQ hC
  subst l1 l2 l3
  have q := hS.trans hS' (Nat.le_trans hk (by rw [← eT]; exact hg'))
  exact ⟨v, T', L, X', q, Nat.le_refl _, State.Warmed39.trans (t := s.setVm vm0) hZ hS'.1, by rw [hS'.1.alike.findClass]; exact hown, hQ, hC, fun _ t => st.trans t⟩
end OwnH
abbrev OMH (l : Launch) (Z : State) (EL : List (String × Nat)) (SF : List Addr) (y : MethodName) (bytes : ByteArray) (maxL : Nat) (ret : Option FieldType) (ws : List Jvm.Cond) (rm : Room) (as' : Array Value) (h0 : Heap) (Q : Option Value → Heap → List Loc → Prop) : Prop :=
  MetFree l y (head1 (Jvm.Cond.code y bytes maxL ret :: ws) rm) (fun a U => a = as' ∧ Z.Warmed39 U.vm ∧ U.heap = h0 ∧ CHv Z EL U.vm h0 ∧ ∀ x ∈ SF, Safe Z EL U.vm h0 x) (fun _ _ _ _ _ => True) (fun _ U o U' => ∃ v L, o = .returned v ∧ Q v U'.heap L ∧ CHr Z EL U.vm U.heap U'.vm U'.heap ∧ ReturnedEndW U o U' L rm.cells rm.slots)
theorem own_bodyH {l : Launch} {Z : State} {a0 : Array Value} {EL : List (String × Nat)} {SF : List Addr} {y : MethodName} {bytes : ByteArray} {maxL : Nat} {ret : Option FieldType} {ws : List Jvm.Cond} {rm : Room} {as' : Array Value} {h0 : Heap} {Q : Option Value → Heap → List Loc → Prop} {k n k' n' : Nat} {L0 : Array Slot} (hEL : EW Z a0 EL) (hp : plainFor y = true) (hef : ∀ m, entryFrame m as' maxL = mkF m 0 L0 []) (hk : k ≤ k') (hn : n ≤ n')
    (H : ∀ (p : Program) (e : Env) (s : State) (m : MethodId) (below : List Frame) (meth : Method) (c : Code) (s₁ : State), p.tables.exec = Jvm.exec → c.code = bytes → c.maxLocals = maxL → s.vm.findClass y.cls = some m.cls → meth.name = y.name → meth.sig.returnType = ret → Z.Warmed39 s.vm → s₁.heap = h0 → s.Since s.vm s.heap.size → s.heap.size ≤ h0.size → Stand p l e rm (s.setVm s.vm) m as' below meth c s₁ [] 0 0 → CHv Z EL s.vm h0 → (∀ x ∈ SF, Safe Z EL s.vm h0 x) →
      ∃ (T : State) (L : List Loc) (v : Option Value) (vm1 : Vm) (n1 : Nat), Stand p l e rm (s.setVm vm1) m as' below meth c T L k n ∧ s.Since vm1 n1 ∧ n1 ≤ T.heap.size ∧ (ret = none → v = none) ∧ Q v T.heap L ∧ CHr Z EL s.vm h0 vm1 T.heap ∧ Z.Warmed39 vm1 ∧ ∀ fs, (∀ (f : JFrame) (acts : List Action), f.method = m → f.locked = none → f.entered = [] → (doReturn e (T.setTop f) acts v).1 = T.setFrames fs) → Steps p.tables e below (s₁.setTop (mkF m 0 L0 [])) (T.setFrames fs)) :
    MetFree l y (head1 (Jvm.Cond.code y bytes maxL ret :: ws) rm) (fun a U => a = as' ∧ Z.Warmed39 U.vm ∧ U.heap = h0 ∧ CHv Z EL U.vm h0 ∧ ∀ x ∈ SF, Safe Z EL U.vm h0 x) (fun _ _ _ _ _ => True) (fun _ U o U' => ∃ v L, o = .returned v ∧ Q v U'.heap L ∧ CHr Z EL U.vm U.heap U'.vm U'.heap ∧ ReturnedEndW U o U' L k' n') := by
  refine MetFree.of_bodySF hp hisR ?_
  intro p e s m args below meth c s₁ Bd hml0 hP hK
  obtain ⟨rfl, hZ, hh, hC, hSF⟩ := hP
  have e0 : s₁.heap = h0 := by rw [← hh, Bd.state]; rfl
  have hnm := (name_of_methodNamed Bd.named Bd.method).1
  obtain ⟨T, L, v, vm1, n1, X, hS, hn1, hv, hQ, hA, hZ1, st⟩ := H p e s m below meth c s₁ Bd.exec Bd.bytes hml0 (findClass_of_methodNamed Bd.named) hnm Bd.returns hZ e0 (own_since s) (Nat.le_of_eq (congrArg Array.size hh)) (Stand.of_body Bd) hC hSF
  obtain ⟨fs, hr, hrun, hended, hRE⟩ := X.leaveW hS hn1 (v := v) (fun h => hv (Bd.returns.symm.trans h)) Bd.notSynchronized
  have hB := hA.trans (CHv.at X hZ1 hEL hA.1)
  rw [← hh] at hB
  exact ⟨_, _, castTop (hef m) (st fs hr), hrun, hended, v, L, rfl, hQ, hB, own_REmono hRE hk hn⟩
theorem t_iloadN {tb : Tables} [Ours tb] {e : Env} {below : List Frame} {T target : State} {m : MethodId} {c : Code} {pc : Nat} {L : Array Slot} {S : List Value} {v : Int32} {k : Fin 4} (pc' : Nat) (h : At T m c below) (hx : tb.exec = Jvm.exec) {bb : ByteArray} (hby : c.code = bb) (hd0 : decode bb pc = .ok (.iload_n k, 1)) (hl : L[k.val]? = some (.val (.int v))) (hp : pc + 1 = pc') (hr : Steps tb e below (T.setTop (mkF m pc' L (.int v :: S))) target) : Steps tb e below (T.setTop (mkF m pc L (S))) target := by
  have hd := hb hby hd0
  subst hp; exact XS.iloadN h hx rfl hd hl hr
theorem t_iload {tb : Tables} [Ours tb] {e : Env} {below : List Frame} {T target : State} {m : MethodId} {c : Code} {pc : Nat} {L : Array Slot} {S : List Value} {v : Int32} {k : Nat} (pc' : Nat) (h : At T m c below) (hx : tb.exec = Jvm.exec) {bb : ByteArray} (hby : c.code = bb) (hd0 : decode bb pc = .ok (.iload k, 2)) (hl : L[k]? = some (.val (.int v))) (hp : pc + 2 = pc') (hr : Steps tb e below (T.setTop (mkF m pc' L (.int v :: S))) target) : Steps tb e below (T.setTop (mkF m pc L (S))) target := by
  have hd := hb hby hd0
  subst hp; exact XS.iload h hx rfl hd hl hr
theorem t_aloadN {tb : Tables} [Ours tb] {e : Env} {below : List Frame} {T target : State} {m : MethodId} {c : Code} {pc : Nat} {L : Array Slot} {S : List Value} {v : Value} {k : Fin 4} (pc' : Nat) (h : At T m c below) (hx : tb.exec = Jvm.exec) {bb : ByteArray} (hby : c.code = bb) (hd0 : decode bb pc = .ok (.aload_n k, 1)) (hl : L[k.val]? = some (.val v)) (hv : v.isRef = true) (hp : pc + 1 = pc') (hr : Steps tb e below (T.setTop (mkF m pc' L (v :: S))) target) : Steps tb e below (T.setTop (mkF m pc L (S))) target := by
  have hd := hb hby hd0
  subst hp; exact XS.aloadN h hx rfl hd hl hv hr
theorem t_aload {tb : Tables} [Ours tb] {e : Env} {below : List Frame} {T target : State} {m : MethodId} {c : Code} {pc : Nat} {L : Array Slot} {S : List Value} {v : Value} {k : Nat} (pc' : Nat) (h : At T m c below) (hx : tb.exec = Jvm.exec) {bb : ByteArray} (hby : c.code = bb) (hd0 : decode bb pc = .ok (.aload k, 2)) (hl : L[k]? = some (.val v)) (hv : v.isRef = true) (hp : pc + 2 = pc') (hr : Steps tb e below (T.setTop (mkF m pc' L (v :: S))) target) : Steps tb e below (T.setTop (mkF m pc L (S))) target := by
  have hd := hb hby hd0
  subst hp; exact XS.aload h hx rfl hd hl hv hr
theorem t_istoreN {tb : Tables} [Ours tb] {e : Env} {below : List Frame} {T target : State} {m : MethodId} {c : Code} {pc : Nat} {L : Array Slot} {S : List Value} {v : Int32} {k : Fin 4} {L' : Array Slot} (pc' : Nat) (h : At T m c below) (hx : tb.exec = Jvm.exec) {bb : ByteArray} (hby : c.code = bb) (hd0 : decode bb pc = .ok (.istore_n k, 1)) (hl : storeLocals L k.val (.int v) = some L') (hp : pc + 1 = pc') (hr : Steps tb e below (T.setTop (mkF m pc' L' (S))) target) : Steps tb e below (T.setTop (mkF m pc L (.int v :: S))) target := by
  have hd := hb hby hd0
  subst hp; exact XS.istoreN h hx rfl hd rfl hl hr
theorem t_istore {tb : Tables} [Ours tb] {e : Env} {below : List Frame} {T target : State} {m : MethodId} {c : Code} {pc : Nat} {L : Array Slot} {S : List Value} {v : Int32} {k : Nat} {L' : Array Slot} (pc' : Nat) (h : At T m c below) (hx : tb.exec = Jvm.exec) {bb : ByteArray} (hby : c.code = bb) (hd0 : decode bb pc = .ok (.istore k, 2)) (hl : storeLocals L k (.int v) = some L') (hp : pc + 2 = pc') (hr : Steps tb e below (T.setTop (mkF m pc' L' (S))) target) : Steps tb e below (T.setTop (mkF m pc L (.int v :: S))) target := by
  have hd := hb hby hd0
  subst hp; exact XS.istore h hx rfl hd rfl hl hr
theorem t_astoreN {tb : Tables} [Ours tb] {e : Env} {below : List Frame} {T target : State} {m : MethodId} {c : Code} {pc : Nat} {L : Array Slot} {S : List Value} {v : Value} {k : Fin 4} {L' : Array Slot} (pc' : Nat) (h : At T m c below) (hx : tb.exec = Jvm.exec) {bb : ByteArray} (hby : c.code = bb) (hd0 : decode bb pc = .ok (.astore_n k, 1)) (hv : v.isRef = true) (hl : storeLocals L k.val v = some L') (hp : pc + 1 = pc') (hr : Steps tb e below (T.setTop (mkF m pc' L' (S))) target) : Steps tb e below (T.setTop (mkF m pc L (v :: S))) target := by
  have hd := hb hby hd0
  subst hp; exact XS.astoreN h hx rfl hd rfl hv hl hr
theorem t_astore {tb : Tables} [Ours tb] {e : Env} {below : List Frame} {T target : State} {m : MethodId} {c : Code} {pc : Nat} {L : Array Slot} {S : List Value} {v : Value} {k : Nat} {L' : Array Slot} (pc' : Nat) (h : At T m c below) (hx : tb.exec = Jvm.exec) {bb : ByteArray} (hby : c.code = bb) (hd0 : decode bb pc = .ok (.astore k, 2)) (hv : v.isRef = true) (hl : storeLocals L k v = some L') (hp : pc + 2 = pc') (hr : Steps tb e below (T.setTop (mkF m pc' L' (S))) target) : Steps tb e below (T.setTop (mkF m pc L (v :: S))) target := by
  have hd := hb hby hd0
  subst hp; exact XS.astore h hx rfl hd rfl hv hl hr
theorem t_iconst {tb : Tables} [Ours tb] {e : Env} {below : List Frame} {T target : State} {m : MethodId} {c : Code} {pc : Nat} {L : Array Slot} {S : List Value} {i : Int} {r : Int32} (pc' : Nat) (h : At T m c below) (hx : tb.exec = Jvm.exec) {bb : ByteArray} (hby : c.code = bb) (hd0 : decode bb pc = .ok (.iconst i, 1)) (he : Int32.ofInt i = r) (hp : pc + 1 = pc') (hr : Steps tb e below (T.setTop (mkF m pc' L (.int r :: S))) target) : Steps tb e below (T.setTop (mkF m pc L (S))) target := by
  have hd := hb hby hd0
  subst hp he; exact XS.iconst h hx rfl hd hr
theorem t_bipush {tb : Tables} [Ours tb] {e : Env} {below : List Frame} {T target : State} {m : MethodId} {c : Code} {pc : Nat} {L : Array Slot} {S : List Value} {i : Int} {r : Int32} (pc' : Nat) (h : At T m c below) (hx : tb.exec = Jvm.exec) {bb : ByteArray} (hby : c.code = bb) (hd0 : decode bb pc = .ok (.bipush i, 2)) (he : (Int8.ofInt i).toInt32 = r) (hp : pc + 2 = pc') (hr : Steps tb e below (T.setTop (mkF m pc' L (.int r :: S))) target) : Steps tb e below (T.setTop (mkF m pc L (S))) target := by
  have hd := hb hby hd0
  subst hp he; exact XS.bipush h hx rfl hd hr
theorem t_sipush {tb : Tables} [Ours tb] {e : Env} {below : List Frame} {T target : State} {m : MethodId} {c : Code} {pc : Nat} {L : Array Slot} {S : List Value} {i : Int} {r : Int32} (pc' : Nat) (h : At T m c below) (hx : tb.exec = Jvm.exec) {bb : ByteArray} (hby : c.code = bb) (hd0 : decode bb pc = .ok (.sipush i, 3)) (he : (Int16.ofInt i).toInt32 = r) (hp : pc + 3 = pc') (hr : Steps tb e below (T.setTop (mkF m pc' L (.int r :: S))) target) : Steps tb e below (T.setTop (mkF m pc L (S))) target := by
  have hd := hb hby hd0
  subst hp he; exact XS.sipush h hx rfl hd hr
theorem t_aconst_null {tb : Tables} [Ours tb] {e : Env} {below : List Frame} {T target : State} {m : MethodId} {c : Code} {pc : Nat} {L : Array Slot} {S : List Value}  (pc' : Nat) (h : At T m c below) (hx : tb.exec = Jvm.exec) {bb : ByteArray} (hby : c.code = bb) (hd0 : decode bb pc = .ok (.aconst_null, 1)) (hp : pc + 1 = pc') (hr : Steps tb e below (T.setTop (mkF m pc' L (.null :: S))) target) : Steps tb e below (T.setTop (mkF m pc L (S))) target := by
  have hd := hb hby hd0
  subst hp; exact XS.aconstNull h hx rfl hd hr
theorem t_isub {tb : Tables} [Ours tb] {e : Env} {below : List Frame} {T target : State} {m : MethodId} {c : Code} {pc : Nat} {L : Array Slot} {S : List Value} {x y r : Int32} (pc' : Nat) (h : At T m c below) (hx : tb.exec = Jvm.exec) {bb : ByteArray} (hby : c.code = bb) (hd0 : decode bb pc = .ok (.isub, 1)) (he : x - y = r) (hp : pc + 1 = pc') (hr : Steps tb e below (T.setTop (mkF m pc' L (.int r :: S))) target) : Steps tb e below (T.setTop (mkF m pc L (.int y :: .int x :: S))) target := by
  have hd := hb hby hd0
  subst hp he; exact XS.isub h hx rfl hd rfl hr
theorem t_iand {tb : Tables} [Ours tb] {e : Env} {below : List Frame} {T target : State} {m : MethodId} {c : Code} {pc : Nat} {L : Array Slot} {S : List Value} {x y r : Int32} (pc' : Nat) (h : At T m c below) (hx : tb.exec = Jvm.exec) {bb : ByteArray} (hby : c.code = bb) (hd0 : decode bb pc = .ok (.iand, 1)) (he : x &&& y = r) (hp : pc + 1 = pc') (hr : Steps tb e below (T.setTop (mkF m pc' L (.int r :: S))) target) : Steps tb e below (T.setTop (mkF m pc L (.int y :: .int x :: S))) target := by
  have hd := hb hby hd0
  subst hp he; exact XS.iand h hx rfl hd rfl hr
theorem t_ior {tb : Tables} [Ours tb] {e : Env} {below : List Frame} {T target : State} {m : MethodId} {c : Code} {pc : Nat} {L : Array Slot} {S : List Value} {x y r : Int32} (pc' : Nat) (h : At T m c below) (hx : tb.exec = Jvm.exec) {bb : ByteArray} (hby : c.code = bb) (hd0 : decode bb pc = .ok (.ior, 1)) (he : x ||| y = r) (hp : pc + 1 = pc') (hr : Steps tb e below (T.setTop (mkF m pc' L (.int r :: S))) target) : Steps tb e below (T.setTop (mkF m pc L (.int y :: .int x :: S))) target := by
  have hd := hb hby hd0
  subst hp he; exact XS.ior h hx rfl hd rfl hr
theorem t_irem {tb : Tables} [Ours tb] {e : Env} {below : List Frame} {T target : State} {m : MethodId} {c : Code} {pc : Nat} {L : Array Slot} {S : List Value} {x y r : Int32} (pc' : Nat) (h : At T m c below) (hx : tb.exec = Jvm.exec) {bb : ByteArray} (hby : c.code = bb) (hd0 : decode bb pc = .ok (.irem, 1)) (hy : y ≠ 0) (he : x - (x / y) * y = r) (hp : pc + 1 = pc') (hr : Steps tb e below (T.setTop (mkF m pc' L (.int r :: S))) target) : Steps tb e below (T.setTop (mkF m pc L (.int y :: .int x :: S))) target := by
  have hd := hb hby hd0
  subst hp he; exact XS.irem h hx rfl hd rfl hy hr
theorem t_ishl {tb : Tables} [Ours tb] {e : Env} {below : List Frame} {T target : State} {m : MethodId} {c : Code} {pc : Nat} {L : Array Slot} {S : List Value} {x r : Int32} {y : Int32} (pc' : Nat) (h : At T m c below) (hx : tb.exec = Jvm.exec) {bb : ByteArray} (hby : c.code = bb) (hd0 : decode bb pc = .ok (.ishl, 1)) (he : x <<< (y &&& 31) = r) (hp : pc + 1 = pc') (hr : Steps tb e below (T.setTop (mkF m pc' L (.int r :: S))) target) : Steps tb e below (T.setTop (mkF m pc L (.int y :: .int x :: S))) target := by
  have hd := hb hby hd0
  subst hp he; exact XS.ishl h hx rfl hd rfl hr
theorem t_ishr {tb : Tables} [Ours tb] {e : Env} {below : List Frame} {T target : State} {m : MethodId} {c : Code} {pc : Nat} {L : Array Slot} {S : List Value} {x r : Int32} {y : Int32} (pc' : Nat) (h : At T m c below) (hx : tb.exec = Jvm.exec) {bb : ByteArray} (hby : c.code = bb) (hd0 : decode bb pc = .ok (.ishr, 1)) (he : x >>> (y &&& 31) = r) (hp : pc + 1 = pc') (hr : Steps tb e below (T.setTop (mkF m pc' L (.int r :: S))) target) : Steps tb e below (T.setTop (mkF m pc L (.int y :: .int x :: S))) target := by
  have hd := hb hby hd0
  subst hp he; exact XS.ishr h hx rfl hd rfl hr
theorem t_iushr {tb : Tables} [Ours tb] {e : Env} {below : List Frame} {T target : State} {m : MethodId} {c : Code} {pc : Nat} {L : Array Slot} {S : List Value} {x r : Int32} {y : Int32} (pc' : Nat) (h : At T m c below) (hx : tb.exec = Jvm.exec) {bb : ByteArray} (hby : c.code = bb) (hd0 : decode bb pc = .ok (.iushr, 1)) (he : (x.toUInt32 >>> (y &&& 31).toUInt32).toInt32 = r) (hp : pc + 1 = pc') (hr : Steps tb e below (T.setTop (mkF m pc' L (.int r :: S))) target) : Steps tb e below (T.setTop (mkF m pc L (.int y :: .int x :: S))) target := by
  have hd := hb hby hd0
  subst hp he; exact XS.iushr h hx rfl hd rfl hr
theorem t_i2b {tb : Tables} [Ours tb] {e : Env} {below : List Frame} {T target : State} {m : MethodId} {c : Code} {pc : Nat} {L : Array Slot} {S : List Value} {x : Int32} {r : Int32} (pc' : Nat) (h : At T m c below) (hx : tb.exec = Jvm.exec) {bb : ByteArray} (hby : c.code = bb) (hd0 : decode bb pc = .ok (.i2b, 1)) (he : x.toInt8.toInt32 = r) (hp : pc + 1 = pc') (hr : Steps tb e below (T.setTop (mkF m pc' L (.int r :: S))) target) : Steps tb e below (T.setTop (mkF m pc L (.int x :: S))) target := by
  have hd := hb hby hd0
  subst hp he; exact XS.i2b h hx rfl hd rfl hr
theorem t_i2c {tb : Tables} [Ours tb] {e : Env} {below : List Frame} {T target : State} {m : MethodId} {c : Code} {pc : Nat} {L : Array Slot} {S : List Value} {x : Int32} {r : Int32} (pc' : Nat) (h : At T m c below) (hx : tb.exec = Jvm.exec) {bb : ByteArray} (hby : c.code = bb) (hd0 : decode bb pc = .ok (.i2c, 1)) (he : x.toUInt32.toUInt16.toUInt32.toInt32 = r) (hp : pc + 1 = pc') (hr : Steps tb e below (T.setTop (mkF m pc' L (.int r :: S))) target) : Steps tb e below (T.setTop (mkF m pc L (.int x :: S))) target := by
  have hd := hb hby hd0
  subst hp he; exact XS.i2c h hx rfl hd rfl hr
theorem t_dup {tb : Tables} [Ours tb] {e : Env} {below : List Frame} {T target : State} {m : MethodId} {c : Code} {pc : Nat} {L : Array Slot} {S : List Value} {x : Value} (pc' : Nat) (h : At T m c below) (hx : tb.exec = Jvm.exec) {bb : ByteArray} (hby : c.code = bb) (hd0 : decode bb pc = .ok (.dup, 1)) (hc : x.category = 1) (hp : pc + 1 = pc') (hr : Steps tb e below (T.setTop (mkF m pc' L (x :: x :: S))) target) : Steps tb e below (T.setTop (mkF m pc L (x :: S))) target := by
  have hd := hb hby hd0
  subst hp; exact XS.dup h hx rfl hd rfl hc hr
theorem t_pop {tb : Tables} [Ours tb] {e : Env} {below : List Frame} {T target : State} {m : MethodId} {c : Code} {pc : Nat} {L : Array Slot} {S : List Value} {x : Value} (pc' : Nat) (h : At T m c below) (hx : tb.exec = Jvm.exec) {bb : ByteArray} (hby : c.code = bb) (hd0 : decode bb pc = .ok (.pop, 1)) (hc : x.category = 1) (hp : pc + 1 = pc') (hr : Steps tb e below (T.setTop (mkF m pc' L (S))) target) : Steps tb e below (T.setTop (mkF m pc L (x :: S))) target := by
  have hd := hb hby hd0
  subst hp; exact XS.pop h hx rfl hd rfl hc hr
theorem t_iinc {tb : Tables} [Ours tb] {e : Env} {below : List Frame} {T target : State} {m : MethodId} {c : Code} {pc : Nat} {L : Array Slot} {S : List Value} {k : Nat} {cst : Int} {x : Int32} {L' : Array Slot} (pc' : Nat) (h : At T m c below) (hx : tb.exec = Jvm.exec) {bb : ByteArray} (hby : c.code = bb) (hd0 : decode bb pc = .ok (.iinc k cst, 3)) (hl : L[k]? = some (.val (.int x))) (hl' : storeLocals L k (.int (x + Int32.ofInt cst)) = some L') (hp : pc + 3 = pc') (hr : Steps tb e below (T.setTop (mkF m pc' L' (S))) target) : Steps tb e below (T.setTop (mkF m pc L (S))) target := by
  have hd := hb hby hd0
  subst hp; exact XS.iinc h hx rfl hd hl hl' hr
theorem t_goto {tb : Tables} [Ours tb] {e : Env} {below : List Frame} {T target : State} {m : MethodId} {c : Code} {pc : Nat} {L : Array Slot} {S : List Value} {o : Int} (pc' : Nat) (h : At T m c below) (hx : tb.exec = Jvm.exec) {bb : ByteArray} (hby : c.code = bb) (hd0 : decode bb pc = .ok (.goto o, 3)) (ho : 0 ≤ (pc : Int) + o) (hp : ((pc : Int) + o).toNat = pc') (hr : Steps tb e below (T.setTop (mkF m pc' L (S))) target) : Steps tb e below (T.setTop (mkF m pc L (S))) target := by
  have hd := hb hby hd0
  exact XS.goto h hx rfl rfl hd ho hp hr
theorem t_ifYes {tb : Tables} [Ours tb] {e : Env} {below : List Frame} {T target : State} {m : MethodId} {c : Code} {pc : Nat} {L : Array Slot} {S : List Value} {cd : ClassFile.Cond} {x : Int32} {o : Int} (pc' : Nat) (h : At T m c below) (hx : tb.exec = Jvm.exec) {bb : ByteArray} (hby : c.code = bb) (hd0 : decode bb pc = .ok (.ifCond cd o, 3)) (hc : ifCond.holds cd x = true) (ho : 0 ≤ (pc : Int) + o) (hp : ((pc : Int) + o).toNat = pc') (hr : Steps tb e below (T.setTop (mkF m pc' L (S))) target) : Steps tb e below (T.setTop (mkF m pc L (.int x :: S))) target := by
  have hd := hb hby hd0
  exact XS.ifYes h hx rfl rfl hd rfl hc ho hp hr
theorem t_ifNo {tb : Tables} [Ours tb] {e : Env} {below : List Frame} {T target : State} {m : MethodId} {c : Code} {pc : Nat} {L : Array Slot} {S : List Value} {cd : ClassFile.Cond} {x : Int32} {o : Int} (pc' : Nat) (h : At T m c below) (hx : tb.exec = Jvm.exec) {bb : ByteArray} (hby : c.code = bb) (hd0 : decode bb pc = .ok (.ifCond cd o, 3)) (hc : ifCond.holds cd x = false) (hp : pc + 3 = pc') (hr : Steps tb e below (T.setTop (mkF m pc' L (S))) target) : Steps tb e below (T.setTop (mkF m pc L (.int x :: S))) target := by
  have hd := hb hby hd0
  subst hp; exact XS.ifNo h hx rfl hd rfl hc hr
theorem t_icmpYes {tb : Tables} [Ours tb] {e : Env} {below : List Frame} {T target : State} {m : MethodId} {c : Code} {pc : Nat} {L : Array Slot} {S : List Value} {cd : ClassFile.Cond} {x y : Int32} {o : Int} (pc' : Nat) (h : At T m c below) (hx : tb.exec = Jvm.exec) {bb : ByteArray} (hby : c.code = bb) (hd0 : decode bb pc = .ok (.if_icmp cd o, 3)) (hc : if_icmp.holds cd x y = true) (ho : 0 ≤ (pc : Int) + o) (hp : ((pc : Int) + o).toNat = pc') (hr : Steps tb e below (T.setTop (mkF m pc' L (S))) target) : Steps tb e below (T.setTop (mkF m pc L (.int y :: .int x :: S))) target := by
  have hd := hb hby hd0
  exact XS.icmpYes h hx rfl rfl hd rfl hc ho hp hr
theorem t_icmpNo {tb : Tables} [Ours tb] {e : Env} {below : List Frame} {T target : State} {m : MethodId} {c : Code} {pc : Nat} {L : Array Slot} {S : List Value} {cd : ClassFile.Cond} {x y : Int32} {o : Int} (pc' : Nat) (h : At T m c below) (hx : tb.exec = Jvm.exec) {bb : ByteArray} (hby : c.code = bb) (hd0 : decode bb pc = .ok (.if_icmp cd o, 3)) (hc : if_icmp.holds cd x y = false) (hp : pc + 3 = pc') (hr : Steps tb e below (T.setTop (mkF m pc' L (S))) target) : Steps tb e below (T.setTop (mkF m pc L (.int y :: .int x :: S))) target := by
  have hd := hb hby hd0
  subst hp; exact XS.icmpNo h hx rfl hd rfl hc hr
theorem t_ifnullYes {tb : Tables} [Ours tb] {e : Env} {below : List Frame} {T target : State} {m : MethodId} {c : Code} {pc : Nat} {L : Array Slot} {S : List Value} {o : Int} (pc' : Nat) (h : At T m c below) (hx : tb.exec = Jvm.exec) {bb : ByteArray} (hby : c.code = bb) (hd0 : decode bb pc = .ok (.ifnull o, 3)) (ho : 0 ≤ (pc : Int) + o) (hp : ((pc : Int) + o).toNat = pc') (hr : Steps tb e below (T.setTop (mkF m pc' L (S))) target) : Steps tb e below (T.setTop (mkF m pc L (.null :: S))) target := by
  have hd := hb hby hd0
  exact XS.ifnullYes h hx rfl rfl hd rfl ho hp hr
theorem t_ifnullNo {tb : Tables} [Ours tb] {e : Env} {below : List Frame} {T target : State} {m : MethodId} {c : Code} {pc : Nat} {L : Array Slot} {S : List Value} {b : Addr} {o : Int} (pc' : Nat) (h : At T m c below) (hx : tb.exec = Jvm.exec) {bb : ByteArray} (hby : c.code = bb) (hd0 : decode bb pc = .ok (.ifnull o, 3)) (hp : pc + 3 = pc') (hr : Steps tb e below (T.setTop (mkF m pc' L (S))) target) : Steps tb e below (T.setTop (mkF m pc L (.ref b :: S))) target := by
  have hd := hb hby hd0
  subst hp; exact XS.ifnullNo h hx rfl hd rfl hr
theorem t_ifnonnullYes {tb : Tables} [Ours tb] {e : Env} {below : List Frame} {T target : State} {m : MethodId} {c : Code} {pc : Nat} {L : Array Slot} {S : List Value} {b : Addr} {o : Int} (pc' : Nat) (h : At T m c below) (hx : tb.exec = Jvm.exec) {bb : ByteArray} (hby : c.code = bb) (hd0 : decode bb pc = .ok (.ifnonnull o, 3)) (ho : 0 ≤ (pc : Int) + o) (hp : ((pc : Int) + o).toNat = pc') (hr : Steps tb e below (T.setTop (mkF m pc' L (S))) target) : Steps tb e below (T.setTop (mkF m pc L (.ref b :: S))) target := by
  have hd := hb hby hd0
  exact XS.ifnonnullYes h hx rfl rfl hd rfl ho hp hr
theorem t_ifnonnullNo {tb : Tables} [Ours tb] {e : Env} {below : List Frame} {T target : State} {m : MethodId} {c : Code} {pc : Nat} {L : Array Slot} {S : List Value} {o : Int} (pc' : Nat) (h : At T m c below) (hx : tb.exec = Jvm.exec) {bb : ByteArray} (hby : c.code = bb) (hd0 : decode bb pc = .ok (.ifnonnull o, 3)) (hp : pc + 3 = pc') (hr : Steps tb e below (T.setTop (mkF m pc' L (S))) target) : Steps tb e below (T.setTop (mkF m pc L (.null :: S))) target := by
  have hd := hb hby hd0
  subst hp; exact XS.ifnonnullNo h hx rfl hd rfl hr
theorem own_arlen {p : Program} {l : Launch} {e : Env} {R : Room} {s : State} {m : MethodId} {args : Array Value} {below : List Frame} {meth : Method} {c : Code} {T : State} {locs : List Loc} {cells slots : Nat} {Z : State} {h : Heap} {a : Addr} {k : ClassId} {z : Int32} {vs : List Value} {dv : Value} {pc pc' : Nat} {Ls : Array Slot} {S : List Value} {ty : FieldType} {target : State} (X : Stand p l e R s m args below meth c T locs cells slots) (hx : p.tables.exec = Jvm.exec) (hZ : Z.Warmed39 s.vm) (eT : T.heap = h) (F : Arv Z h a k ty z vs dv) (hd : decode c.code pc = .ok (.arraylength, 1)) (hp : pc + 1 = pc') (hr : Steps p.tables e below (T.setTop (mkF m pc' Ls (.int z :: S))) target) : Steps p.tables e below (T.setTop (mkF m pc Ls (.ref a :: S))) target := by
  obtain ⟨cl, A, -, q, n, -, -⟩ := F
  subst hp
  refine X.arraylength hx (by rw [eT]; exact A.1) (State.isArrayOf_alike hZ.alike A.2.1) (g := mkF m pc Ls (.ref a :: S)) rfl rfl hd _ ?_
  rw [len_of q n]; exact hr
theorem own_aldC {p : Program} {l : Launch} {e : Env} {R : Room} {s : State} {m : MethodId} {args : Array Value} {below : List Frame} {meth : Method} {c : Code} {T : State} {locs : List Loc} {cells slots : Nat} {Z : State} {h : Heap} {a : Addr} {k : ClassId} {z j : Int32} {vs : List Value} {v dv : Value} {pc pc' : Nat} {Ls : Array Slot} {S : List Value} {target : State} (X : Stand p l e R s m args below meth c T locs cells slots) (hx : p.tables.exec = Jvm.exec) (hZ : Z.Warmed39 s.vm) (eT : T.heap = h) (F : Arv Z h a k .char z vs dv) (hj : ¬ j < 0 ∧ j < z) (hv : vs.getD j.toNatClampNeg dv = v) (hd : decode c.code pc = .ok (.caload, 1)) (hp : pc + 1 = pc') (hr : Steps p.tables e below (T.setTop (mkF m pc' Ls (v :: S))) target) : Steps p.tables e below (T.setTop (mkF m pc Ls (.int j :: .ref a :: S))) target := by
  obtain ⟨cl, A, -, q, n, H, -⟩ := F
  subst hp
  have hin := inb_of q hj
  exact X.caload hx (by rw [eT]; exact A.1) (State.isArrayOf_alike hZ.alike A.2.1) A.2.2 hin (H.at hin hv) (g := mkF m pc Ls (.int j :: .ref a :: S)) rfl rfl hd _ hr
theorem own_aldB {p : Program} {l : Launch} {e : Env} {R : Room} {s : State} {m : MethodId} {args : Array Value} {below : List Frame} {meth : Method} {c : Code} {T : State} {locs : List Loc} {cells slots : Nat} {Z : State} {h : Heap} {a : Addr} {k : ClassId} {z j : Int32} {vs : List Value} {v dv : Value} {pc pc' : Nat} {Ls : Array Slot} {S : List Value} {target : State} (X : Stand p l e R s m args below meth c T locs cells slots) (hx : p.tables.exec = Jvm.exec) (hZ : Z.Warmed39 s.vm) (eT : T.heap = h) (F : Arv Z h a k .byte z vs dv) (hj : ¬ j < 0 ∧ j < z) (hv : vs.getD j.toNatClampNeg dv = v) (hd : decode c.code pc = .ok (.baload, 1)) (hp : pc + 1 = pc') (hr : Steps p.tables e below (T.setTop (mkF m pc' Ls (v :: S))) target) : Steps p.tables e below (T.setTop (mkF m pc Ls (.int j :: .ref a :: S))) target := by
  obtain ⟨cl, A, -, q, n, H, -⟩ := F
  subst hp
  have hin := inb_of q hj
  exact X.baloadBytes hx (by rw [eT]; exact A.1) (State.isArrayOf_alike hZ.alike A.2.1) A.2.2 hin (H.at hin hv) (g := mkF m pc Ls (.int j :: .ref a :: S)) rfl rfl hd _ hr
theorem own_astC {p : Program} {l : Launch} {e : Env} {R : Room} {s : State} {m : MethodId} {args : Array Value} {below : List Frame} {meth : Method} {c : Code} {T : State} {locs : List Loc} {cells slots : Nat} {Z : State} {h : Heap} {a : Addr} {k : ClassId} {z j : Int32} {vs : List Value} {dv : Value} {S : List Value} {x : Int32} (X : Stand p l e R s m args below meth c T locs cells slots) (hx : p.tables.exec = Jvm.exec) (hZ : Z.Warmed39 s.vm) (eT : T.heap = h) (F : Arv Z h a k .char z vs dv) (hj : ¬ j < 0 ∧ j < z) (i : Nat) (hi : j.toNatClampNeg = i) (hi2 : i < vs.length) {g : JFrame} (hg : g.method = m) (hs : g.stack = .int x :: .int j :: .ref a :: S) (hd : decode c.code g.pc = .ok (.castore, 1)) :
    ∃ T' h', Stand p l e R s m args below meth c T' (locs ++ [⟨a, j.toNatClampNeg⟩]) cells slots ∧ T'.heap = h' ∧ Wr h h' a j.toNatClampNeg (.int (nar .char x)) ∧ Arv Z h' a k .char z (vs.set i (.int (nar .char x))) dv ∧ ∀ target, Steps p.tables e below (T'.setTop { g with pc := g.pc + 1, stack := S }) target → Steps p.tables e below (T.setTop g) target := by
  obtain ⟨cl, A, q1, q, n, H, G⟩ := F
  obtain ⟨T', h', X', e', W, st⟩ := stC X hx hZ eT A (inb_of q hj) hg hs hd
  exact ⟨T', h', X', e', W, Arv.set A q1 q n H G (fits_nar_char x) W i hi hi2, st⟩
theorem own_astB {p : Program} {l : Launch} {e : Env} {R : Room} {s : State} {m : MethodId} {args : Array Value} {below : List Frame} {meth : Method} {c : Code} {T : State} {locs : List Loc} {cells slots : Nat} {Z : State} {h : Heap} {a : Addr} {k : ClassId} {z j : Int32} {vs : List Value} {dv : Value} {S : List Value} {x : Int32} (X : Stand p l e R s m args below meth c T locs cells slots) (hx : p.tables.exec = Jvm.exec) (hZ : Z.Warmed39 s.vm) (eT : T.heap = h) (F : Arv Z h a k .byte z vs dv) (hj : ¬ j < 0 ∧ j < z) (i : Nat) (hi : j.toNatClampNeg = i) (hi2 : i < vs.length) {g : JFrame} (hg : g.method = m) (hs : g.stack = .int x :: .int j :: .ref a :: S) (hd : decode c.code g.pc = .ok (.bastore, 1)) :
    ∃ T' h', Stand p l e R s m args below meth c T' (locs ++ [⟨a, j.toNatClampNeg⟩]) cells slots ∧ T'.heap = h' ∧ Wr h h' a j.toNatClampNeg (.int (nar .byte x)) ∧ Arv Z h' a k .byte z (vs.set i (.int (nar .byte x))) dv ∧ ∀ target, Steps p.tables e below (T'.setTop { g with pc := g.pc + 1, stack := S }) target → Steps p.tables e below (T.setTop g) target := by
  obtain ⟨cl, A, q1, q, n, H, G⟩ := F
  obtain ⟨T', h', X', e', W, st⟩ := stB X hx hZ eT A (inb_of q hj) hg hs hd
  exact ⟨T', h', X', e', W, Arv.set A q1 q n H G (fits_nar_byte x) W i hi hi2, st⟩
set_option maxRecDepth 65536
set_option maxHeartbeats 40000000
abbrev HW (Z : State) (a0 : Array Value) : Prop := ∀ d ∈ tables_1, d.before a0 Z = true
theorem ow {Z : State} {a0 : Array Value} {d : Jvm.Cond} (i : Nat) (hw : HW Z a0) (q : tables_1[i]? = some d) : d.before a0 Z = true := hw d (List.mem_of_getElem? q)
abbrev z0 : Value := .int 0
abbrev SCS (Z : State) (z : Int32) : Prop := Sta Z Z.heap "java/lang/String" "COMPACT_STRINGS" "Z" (.int z)
variable {Z : State} {a0 : Array Value}
theorem nwR {a : Addr} {i i' : Nat} {L : List (Addr × Nat)} (q : i ≠ i') (r : (a, i) ∉ L) : (a, i) ∉ (a, i') :: L := nwS (Or.inr q) r
theorem nwL {a b : Addr} {i i' : Nat} {L : List (Addr × Nat)} (q : a ≠ b) (r : (a, i) ∉ L) : (a, i) ∉ (b, i') :: L := nwS (Or.inl q) r
theorem naG {n : Nat} {x : Addr × Nat} {L : List (Addr × Nat)} (q : n ≤ x.1) (r : ∀ w ∈ L, n ≤ w.1) : ∀ w ∈ x :: L, n ≤ w.1 := naS (P := fun w => n ≤ w.1) q r
abbrev vr (a : Addr) : Slot := .val (.ref a)
abbrev vi (z : Int32) : Slot := .val (.int z)
abbrev Sa0 (Z : State) (v : Value) : Prop := Sta Z Z.heap "jdk/internal/util/Preconditions" "SIOOBE_FORMATTER" "Ljava/util/function/BiFunction;" v
abbrev Sa1 (Z : State) (v : Value) : Prop := Sta Z Z.heap "java/time/temporal/ChronoUnit" "DAYS" "Ljava/time/temporal/ChronoUnit;" v
abbrev Sa2 (Z : State) (v : Value) : Prop := Sta Z Z.heap "java/time/temporal/ChronoUnit" "MONTHS" "Ljava/time/temporal/ChronoUnit;" v
abbrev Sa3 (Z : State) (v : Value) : Prop := Sta Z Z.heap "java/time/temporal/ChronoUnit" "YEARS" "Ljava/time/temporal/ChronoUnit;" v
abbrev Sa4 (Z : State) (v : Value) : Prop := Sta Z Z.heap "java/util/Optional" "EMPTY" "Ljava/util/Optional;" v
abbrev Sa5 (Z : State) (v : Value) : Prop := Sta Z Z.heap "java/lang/StringUTF16" "$assertionsDisabled" "Z" v
abbrev Sa6 (Z : State) (v : Value) : Prop := Sta Z Z.heap "java/lang/StringUTF16" "HI_BYTE_SHIFT" "I" v
abbrev Sa7 (Z : State) (v : Value) : Prop := Sta Z Z.heap "java/lang/StringUTF16" "LO_BYTE_SHIFT" "I" v
theorem own_narb (x : Int32) : nar .byte (x.toInt8.toInt32) = x.toInt8.toInt32 := by
  show (x.toInt8.toInt32).toInt8.toInt32 = _
  simp
theorem own_b2c {x : Int32} (h1 : ¬ (x < (0 : Int32))) (h2 : ¬ ((255 : Int32) < x)) : (x.toInt8.toInt32 &&& (255 : Int32)) = x := by
  have h := c_mask (x.toInt8.toInt32) 255 8 (by decide) (by decide)
  have q := c_i2b x
  rw [Int32.lt_iff_toInt_lt] at h1 h2
  have e1 : (0 : Int32).toInt = 0 := rfl
  have e2 : (255 : Int32).toInt = 255 := rfl
  apply Int32.toInt_inj.mp; rw [h]; omega
theorem own_and3 (x : Int32) : x &&& 3 = 0 ∨ x &&& 3 = 1 ∨ x &&& 3 = 2 ∨ x &&& 3 = 3 := by
  have h := c_mask x 3 2 (by decide) (by decide)
  have h2 : (x &&& 3).toInt = (0 : Int32).toInt ∨ (x &&& 3).toInt = (1 : Int32).toInt ∨ (x &&& 3).toInt = (2 : Int32).toInt ∨ (x &&& 3).toInt = (3 : Int32).toInt := by
    show (x &&& 3).toInt = 0 ∨ (x &&& 3).toInt = 1 ∨ (x &&& 3).toInt = 2 ∨ (x &&& 3).toInt = 3
    omega
  rcases h2 with q | q | q | q
  · exact Or.inl (Int32.toInt_inj.mp q)
  · exact Or.inr (Or.inl (Int32.toInt_inj.mp q))
  · exact Or.inr (Or.inr (Or.inl (Int32.toInt_inj.mp q)))
  · exact Or.inr (Or.inr (Or.inr (Int32.toInt_inj.mp q)))
section Dis
variable {Z : State} {a0 : Array Value} {h : Heap} {a b : Addr} {C : String} {k k' : ClassId} {ty ty' : FieldType} {z z' : Int32} {vs vs' : List Value} {dv dv' : Value}
theorem own_arex {n : Nat} (V : Arv Z h a k ty z vs dv) (E : Exa Z h b C) (w : (Cond.instantiable C n).before a0 Z = true) : a ≠ b := fun q => by
  subst q
  obtain ⟨c1, ⟨e1, ⟨-, k1, g1, comp, g2⟩, -⟩, -⟩ := V
  obtain ⟨c2, k2, f1, f2, f3, -⟩ := E
  obtain ⟨c3, k3, r1, r2, r3, -⟩ := Cond.instantiable_spec w
  cases e1.symm.trans f1
  cases f2.symm.trans r1
  cases g1.symm.trans r2
  rw [r3] at g2; cases g2
end Dis
theorem own_bit (x : Int32) : (x &&& (1 : Int32)) = (0 : Int32) ∨ (x &&& (1 : Int32)) = (1 : Int32) := and_one x
theorem own_shr0 (x : Int32) : x >>> ((0 : Int32) &&& 31) = x := by
  have h := c_ishr x 0 0 (by decide)
  apply Int32.toInt_inj.mp; omega
theorem own_shl0 (x : Int32) : x <<< ((0 : Int32) &&& 31) = x := by
  have h := c_ishl x 0 0 (by decide)
  have r := rng32 x
  have r2 := rng32 (x <<< ((0 : Int32) &&& 31))
  apply Int32.toInt_inj.mp; omega
def own_ch (x : Int32) : Int32 := x &&& (65535 : Int32)
theorem own_m16a (x : Int32) : ¬ (own_ch x < (0 : Int32)) := by
  have h := c_mask x 65535 16 (by decide) (by decide)
  unfold own_ch
  rw [Int32.lt_iff_toInt_lt, h]; show ¬ _ < (0 : Int); omega
theorem own_m16b (x : Int32) : ¬ ((65535 : Int32) < own_ch x) := by
  have h := c_mask x 65535 16 (by decide) (by decide)
  unfold own_ch
  rw [Int32.lt_iff_toInt_lt, h]; show ¬ (65535 : Int) < _; omega
theorem own_c2d {x : Int32} (h1 : ¬ (x < (0 : Int32))) (h2 : ¬ ((65535 : Int32) < x)) : x.toUInt32.toUInt16.toUInt32.toInt32 = x := by
  have h := c_i2c x
  rw [Int32.lt_iff_toInt_lt] at h1 h2
  have e1 : (0 : Int32).toInt = 0 := rfl
  have e2 : (65535 : Int32).toInt = 65535 := rfl
  apply Int32.toInt_inj.mp; omega
theorem own_c2m255 (x : Int32) : (x &&& (255 : Int32)).toUInt32.toUInt16.toUInt32.toInt32 = (x &&& (255 : Int32)) := i2c_mask x
def own_chr (u v : Int32) : Int32 := (u &&& (255 : Int32)) ||| ((v &&& (255 : Int32)) <<< ((8 : Int32) &&& 31))
theorem own_chrI (u v : Int32) : (own_chr u v).toInt = u.toInt % 256 + (v.toInt % 256) * 256 := by
  have hu := c_mask u 255 8 (by decide) (by decide)
  have hv := c_mask v 255 8 (by decide) (by decide)
  have hs := c_ishl (v &&& (255 : Int32)) 8 8 (by decide)
  have r := rng32 ((v &&& (255 : Int32)) <<< ((8 : Int32) &&& 31))
  have r2 := rng32 (own_chr u v)
  have e : ((v &&& (255 : Int32)) <<< ((8 : Int32) &&& 31)).toInt = (v.toInt % 256) * 256 := by omega
  have ho := c_or' (u &&& (255 : Int32)) ((v &&& (255 : Int32)) <<< ((8 : Int32) &&& 31)) 8 (by decide) 256 rfl (by omega) (by omega) (by omega)
  unfold own_chr at r2 ⊢
  omega
theorem own_chrC (u v : Int32) : (own_chr u v).toUInt32.toUInt16.toUInt32.toInt32 = own_chr u v := by
  have h := own_chrI u v
  have q := c_i2c (own_chr u v)
  apply Int32.toInt_inj.mp; omega
theorem own_chrE {a : Int32} (h1 : ¬ (a < (0 : Int32))) (h2 : ¬ ((65535 : Int32) < a)) : own_chr (a.toInt8.toInt32) ((a >>> ((8 : Int32) &&& 31)).toInt8.toInt32) = a := by
  have h := own_chrI (a.toInt8.toInt32) ((a >>> ((8 : Int32) &&& 31)).toInt8.toInt32)
  have q := c_i2b a
  have q2 := c_i2b (a >>> ((8 : Int32) &&& 31))
  have s := c_ishr a 8 8 (by decide)
  rw [Int32.lt_iff_toInt_lt] at h1 h2
  have e1 : (0 : Int32).toInt = 0 := rfl
  have e2 : (65535 : Int32).toInt = 65535 := rfl
  apply Int32.toInt_inj.mp; omega
theorem own_chrN {a k : Int32} (h1 : ¬ (a < (0 : Int32))) (h2 : ¬ ((65535 : Int32) < a)) (hn : ¬ (a = k)) : ¬ ((own_chr (a.toInt8.toInt32) ((a >>> ((8 : Int32) &&& 31)).toInt8.toInt32)) = k) := fun q => hn ((own_chrE h1 h2).symm.trans q)
theorem own_b2cN {a k : Int32} (h1 : ¬ (a < (0 : Int32))) (h2 : ¬ ((255 : Int32) < a)) (hn : ¬ (a = k)) : ¬ (((a.toInt8.toInt32) &&& (255 : Int32)) = k) := fun q => hn ((own_b2c h1 h2).symm.trans q)
theorem own_b2o {a k k' : Int32} (h1 : ¬ (a < (0 : Int32))) (h2 : ¬ ((255 : Int32) < a)) (ho : a = k ∨ a = k') : ((a.toInt8.toInt32) &&& (255 : Int32)) = k ∨ ((a.toInt8.toInt32) &&& (255 : Int32)) = k' := by rw [own_b2c h1 h2]; exact ho
theorem own_lt255 {a k k' : Int32} (ho : a = k ∨ a = k') (h1 : ¬ ((255 : Int32) < k)) (h2 : ¬ ((255 : Int32) < k')) : ¬ ((255 : Int32) < a) := by
  rcases ho with rfl | rfl
  · exact h1
  · exact h2
theorem own_nek {a k k' : Int32} (h : a = k) (d : ¬ (k = k')) : ¬ (a = k') := fun q => d (h.symm.trans q)
theorem own_big {a k : Int32} (h : (255 : Int32) < a) (d : ¬ ((255 : Int32) < k)) : ¬ (a = k) := fun q => d (q ▸ h)
def own_let (x : Int32) : Int32 := ([68, 100, 77, 109, 89, 121, 69, 78] : List Int32).getD (((x &&& (2147483647 : Int32)) - ((x &&& (2147483647 : Int32)) / (8 : Int32)) * (8 : Int32))).toNatClampNeg 0
theorem own_letb (x : Int32) : ¬ (((x &&& (2147483647 : Int32)) - ((x &&& (2147483647 : Int32)) / (8 : Int32)) * (8 : Int32)) < (0 : Int32)) ∧ ((x &&& (2147483647 : Int32)) - ((x &&& (2147483647 : Int32)) / (8 : Int32)) * (8 : Int32)) < (8 : Int32) := by
  generalize hy : x &&& (2147483647 : Int32) = y
  have h0 : 0 ≤ y.toInt := by rw [← hy]; exact (c_and x 2147483647 (by decide)).1
  have hd := (c_idiv y 8 8 (by decide) (by decide)).1 h0
  have h1 := c_isub y (y / 8 * 8)
  have h2 := c_imul (y / 8) 8
  have r := rng32 y
  have r2 := rng32 (y / 8 * 8)
  have r3 := rng32 (y - y / 8 * 8)
  have e4 : (8 : Int32).toInt = 8 := rfl
  have e5 : (0 : Int32).toInt = 0 := rfl
  rw [e4] at h2
  rw [Int32.lt_iff_toInt_lt, Int32.lt_iff_toInt_lt, e4, e5]
  omega
theorem own_letX {n : Nat} (h : n < 8) : ([Value.int (68 : Int32), Value.int (100 : Int32), Value.int (77 : Int32), Value.int (109 : Int32), Value.int (89 : Int32), Value.int (121 : Int32), Value.int (69 : Int32), Value.int (78 : Int32)] : List Value).getD n (.int (0 : Int32)) = .int (([68, 100, 77, 109, 89, 121, 69, 78] : List Int32).getD n 0) ∧ ¬ (([68, 100, 77, 109, 89, 121, 69, 78] : List Int32).getD n 0 < (0 : Int32)) ∧ ¬ ((255 : Int32) < ([68, 100, 77, 109, 89, 121, 69, 78] : List Int32).getD n 0) := by
  rcases n with _ | _ | _ | _ | _ | _ | _ | _ | n
  all_goals first | exact ⟨rfl, by decide, by decide⟩ | omega
theorem own_letn (x : Int32) : (((x &&& (2147483647 : Int32)) - ((x &&& (2147483647 : Int32)) / (8 : Int32)) * (8 : Int32))).toNatClampNeg < 8 := by
  have h := own_letb x
  rw [Int32.lt_iff_toInt_lt, Int32.lt_iff_toInt_lt] at h
  have e4 : (8 : Int32).toInt = 8 := rfl
  rw [e4] at h
  show (((x &&& (2147483647 : Int32)) - ((x &&& (2147483647 : Int32)) / (8 : Int32)) * (8 : Int32))).toInt.toNat < 8
  omega
theorem own_letv (x : Int32) : ([Value.int (68 : Int32), Value.int (100 : Int32), Value.int (77 : Int32), Value.int (109 : Int32), Value.int (89 : Int32), Value.int (121 : Int32), Value.int (69 : Int32), Value.int (78 : Int32)] : List Value).getD (((x &&& (2147483647 : Int32)) - ((x &&& (2147483647 : Int32)) / (8 : Int32)) * (8 : Int32))).toNatClampNeg (.int (0 : Int32)) = .int (own_let x) := (own_letX (own_letn x)).1
theorem own_leta (x : Int32) : ¬ (own_let x < (0 : Int32)) := (own_letX (own_letn x)).2.1
theorem own_letd (x : Int32) : ¬ ((255 : Int32) < own_let x) := (own_letX (own_letn x)).2.2
theorem own_letc (x : Int32) : ¬ ((65535 : Int32) < own_let x) := by
  have h := own_letd x
  rw [Int32.lt_iff_toInt_lt] at *
  have e1 : (255 : Int32).toInt = 255 := rfl
  have e2 : (65535 : Int32).toInt = 65535 := rfl
  omega
section Lsw
variable {p : Program} {l : Launch} {e : Env} {R : Room} {s : State} {m : MethodId} {args : Array Value} {below : List Frame} {meth : Method} {c : Code} {T target : State} {locs : List Loc} {cells slots : Nat} {pc pc' len : Nat} {k : Int32} {S : List Value} {Ls : Array Slot} {d : Int} {prs : Array (Int × Int)}
theorem own_lswH (X : Stand p l e R s m args below meth c T locs cells slots) (hx : p.tables.exec = Jvm.exec) (hd : decode c.code pc = .ok (.lookupswitch d prs, len)) (hs : (prs.toList.zip (prs.toList.drop 1)).all (fun (a, next) => a.1 < next.1) = true) {kl : Int32} (hk : k = kl) {a off : Int} (hf : prs.find? (·.1 == kl.toInt) = some (a, off)) (ho : 0 ≤ (pc : Int) + off) (hp : ((pc : Int) + off).toNat = pc') (hr : Steps p.tables e below (T.setTop (mkF m pc' Ls S)) target) : Steps p.tables e below (T.setTop (mkF m pc Ls (.int k :: S))) target := by
  subst hp; subst hk
  exact X.lookupswitchHit hx (g := mkF m pc Ls (.int k :: S)) rfl rfl hd hs hf ho _ hr
theorem own_lswM (X : Stand p l e R s m args below meth c T locs cells slots) (hx : p.tables.exec = Jvm.exec) (hd : decode c.code pc = .ok (.lookupswitch d prs, len)) (hs : (prs.toList.zip (prs.toList.drop 1)).all (fun (a, next) => a.1 < next.1) = true) (hf : prs.find? (·.1 == k.toInt) = none) (ho : 0 ≤ (pc : Int) + d) (hp : ((pc : Int) + d).toNat = pc') (hr : Steps p.tables e below (T.setTop (mkF m pc' Ls S)) target) : Steps p.tables e below (T.setTop (mkF m pc Ls (.int k :: S))) target := by
  subst hp
  exact X.lookupswitchMiss hx (g := mkF m pc Ls (.int k :: S)) rfl rfl hd hs hf ho _ hr
end Lsw
theorem own_toI {k n : Int32} {z : Int} (h : ¬ (k = n)) (e : n.toInt = z) : (z == k.toInt) = false := by
  rw [← e]; exact beq_false_of_ne (fun q => h (Int32.toInt_inj.mp q.symm))
theorem own_lsn6 {k a b c d e f : Int32} {za zb zc zd ze zf oa ob oc od oe of' : Int} (h1 : ¬ (k = a)) (h2 : ¬ (k = b)) (h3 : ¬ (k = c)) (h4 : ¬ (k = d)) (h5 : ¬ (k = e)) (h6 : ¬ (k = f)) (e1 : a.toInt = za) (e2 : b.toInt = zb) (e3 : c.toInt = zc) (e4 : d.toInt = zd) (e5 : e.toInt = ze) (e6 : f.toInt = zf) : (#[(za, oa), (zb, ob), (zc, oc), (zd, od), (ze, oe), (zf, of')] : Array (Int × Int)).find? (·.1 == k.toInt) = none := by
  have g1 := own_toI h1 e1
  have g2 := own_toI h2 e2
  have g3 := own_toI h3 e3
  have g4 := own_toI h4 e4
  have g5 := own_toI h5 e5
  have g6 := own_toI h6 e6
  simp only [List.find?_toArray, List.find?_cons, g1, g2, g3, g4, g5, g6, List.find?_nil]
abbrev b0_ := jdk_41_method_11_code
theorem d0 : decode b0_ 0 = .ok (.iload_n 0, 1) := by decide +kernel
theorem d1 : decode b0_ 1 = .ok (.ifCond .lt 8, 3) := by decide +kernel
theorem d2 : decode b0_ 4 = .ok (.iload_n 0, 1) := by decide +kernel
theorem d3 : decode b0_ 5 = .ok (.iload_n 1, 1) := by decide +kernel
theorem d4 : decode b0_ 6 = .ok (.if_icmp .lt 10, 3) := by decide +kernel
theorem d5 : decode b0_ 16 = .ok (.iload_n 0, 1) := by decide +kernel
theorem d6 : decode b0_ 17 = .ok (.ireturn, 1) := by decide +kernel
theorem ef_0 (x0 x1 : Int32) (m : MethodId) : entryFrame m #[(.int x0), (.int x1), .null] 3 = mkF m 0 #[.val (.int x0), .val (.int x1), .val .null] [] := by first | (simp [entryFrame, mkF, argsToLocals, Value.category]; done) | rfl
theorem pn_Preconditions147 : plainName "jdk/internal/util/Preconditions" = true := by first | (simp [plainName, overriddenIn]; done) | decide +kernel
abbrev y0_checkIndex : MethodName := ⟨"jdk/internal/util/Preconditions", "checkIndex", "(IILjava/util/function/BiFunction;)I"⟩
def Q_r_checkIndex_null (Z : State) (p0 p1 : Int32) (h0 : Heap) (n0 : Nat) (v : Option Value) (h : Heap) (L : List Loc) : Prop := v = some (.int p0) ∧ Fr n0 L ∧ h = h0
theorem r_checkIndex_null (l : Launch) (Z : State) (a0 : Array Value) (hw : HW Z a0) (ws : List Jvm.Cond) (p0 p1 : Int32) (h0 : Heap) (n0 : Nat) (Z0 : n0 ≤ h0.size) (hp0 : ¬ (p0 < (0 : Int32))) (hp1 : p0 < p1) :
    MF l Z y0_checkIndex b0_ 3 (some .int) ws ⟨0, 0, 0, 0⟩ #[(.int p0), (.int p1), .null] h0 (Q_r_checkIndex_null Z p0 p1 h0 n0) := by
 refine own_body (plainFor_of_name pn_Preconditions147) (ef_0 p0 p1) (by decide) (by decide) ?_
 intro p e s m below meth c s₁ hx hby hml hown hnm hret hZ hh e0 X0
 have N0 := Fr.nil n0
 refine ⟨s₁, _, some (.int p0), X0, (fun h => by cases h <;> rfl), ?_, fun fs hr => ?_⟩
 · show Q_r_checkIndex_null Z p0 p1 h0 n0 _ s₁.heap _
   rw [e0]
   exact ⟨rfl, N0, rfl⟩
 refine t_iloadN 1 X0.here hx hby d0 rfl rfl ?_
 refine t_ifNo 4 X0.here hx hby d1 ((if0 _ _).trans (flt hp0).1) rfl ?_
 refine t_iloadN 5 X0.here hx hby d2 rfl rfl ?_
 refine t_iloadN 6 X0.here hx hby d3 rfl rfl ?_
 refine t_icmpYes (pc := 6) 16 X0.here hx hby d4 (tlt hp1).1 (by decide) (by decide) ?_
 refine t_iloadN 17 X0.here hx hby d5 rfl rfl ?_
 exact retI X0 hx hret (hb hby d6) hr
theorem ef_1 (x0 x1 : Int32) (x2 : Addr) (m : MethodId) : entryFrame m #[(.int x0), (.int x1), (.ref x2)] 3 = mkF m 0 #[.val (.int x0), .val (.int x1), .val (.ref x2)] [] := by first | (simp [entryFrame, mkF, argsToLocals, Value.category]; done) | rfl
def Q_r_checkIndex_fo (Z : State) (p0 p1 : Int32) (fo : Addr) (h0 : Heap) (n0 : Nat) (v : Option Value) (h : Heap) (L : List Loc) : Prop := v = some (.int p0) ∧ Fr n0 L ∧ h = h0
theorem r_checkIndex_fo (l : Launch) (Z : State) (a0 : Array Value) (hw : HW Z a0) (ws : List Jvm.Cond) (p0 p1 : Int32) (fo : Addr) (h0 : Heap) (n0 : Nat) (Z0 : n0 ≤ h0.size) (hp0 : ¬ (p0 < (0 : Int32))) (hp1 : p0 < p1) :
    MF l Z y0_checkIndex b0_ 3 (some .int) ws ⟨0, 0, 0, 0⟩ #[(.int p0), (.int p1), (.ref fo)] h0 (Q_r_checkIndex_fo Z p0 p1 fo h0 n0) := by
 refine own_body (plainFor_of_name pn_Preconditions147) (ef_1 p0 p1 fo) (by decide) (by decide) ?_
 intro p e s m below meth c s₁ hx hby hml hown hnm hret hZ hh e0 X0
 have N0 := Fr.nil n0
 refine ⟨s₁, _, some (.int p0), X0, (fun h => by cases h <;> rfl), ?_, fun fs hr => ?_⟩
 · show Q_r_checkIndex_fo Z p0 p1 fo h0 n0 _ s₁.heap _
   rw [e0]
   exact ⟨rfl, N0, rfl⟩
 refine t_iloadN 1 X0.here hx hby d0 rfl rfl ?_
 refine t_ifNo 4 X0.here hx hby d1 ((if0 _ _).trans (flt hp0).1) rfl ?_
 refine t_iloadN 5 X0.here hx hby d2 rfl rfl ?_
 refine t_iloadN 6 X0.here hx hby d3 rfl rfl ?_
 refine t_icmpYes (pc := 6) 16 X0.here hx hby d4 (tlt hp1).1 (by decide) (by decide) ?_
 refine t_iloadN 17 X0.here hx hby d5 rfl rfl ?_
 exact retI X0 hx hret (hb hby d6) hr
abbrev b1_ := jdk_42_method_155_code
theorem d7 : decode b1_ 0 = .ok (.iload_n 0, 1) := by decide +kernel
theorem d8 : decode b1_ 1 = .ok (.iload_n 1, 1) := by decide +kernel
theorem d9 : decode b1_ 2 = .ok (.getstatic 1053, 3) := by decide +kernel
def w117 (hw : HW Z a0) := ow 117 hw rfl
theorem d10 : decode b1_ 5 = .ok (.invokestatic 1059, 3) := by decide +kernel
def w119 (hw : HW Z a0) := ow 119 hw rfl
def w121 (hw : HW Z a0) := ow 121 hw rfl
def w118 (hw : HW Z a0) := ow 118 hw rfl
theorem pd_0 : parseMethodDescriptor "(IILjava/util/function/BiFunction;)I" = some ⟨[.int, .int, (.object "java/util/function/BiFunction")], some .int⟩ := by decide +kernel
def w120 (hw : HW Z a0) := ow 120 hw rfl
theorem d11 : decode b1_ 8 = .ok (.pop, 1) := by decide +kernel
theorem d12 : decode b1_ 9 = .ok (.return_, 1) := by decide +kernel
theorem ef_2 (x0 x1 : Int32) (m : MethodId) : entryFrame m #[(.int x0), (.int x1)] 2 = mkF m 0 #[.val (.int x0), .val (.int x1)] [] := by first | (simp [entryFrame, mkF, argsToLocals, Value.category]; done) | rfl
theorem pn_String564 : plainName "java/lang/String" = true := by first | (simp [plainName, overriddenIn]; done) | decide +kernel
abbrev y1_checkIndex : MethodName := ⟨"java/lang/String", "checkIndex", "(II)V"⟩
def Q_r_checkIndex (Z : State) (p0 p1 : Int32) (h0 : Heap) (n0 : Nat) (v : Option Value) (h : Heap) (L : List Loc) : Prop := v = none ∧ Fr n0 L ∧ h = h0
theorem r_ScheckIndex_null (l : Launch) (Z : State) (a0 : Array Value) (hw : HW Z a0) (ws : List Jvm.Cond) (p0 p1 : Int32) (h0 : Heap) (n0 : Nat) (Z0 : n0 ≤ h0.size) (S_SIOOBE_FORMATTER : Sa0 Z .null) (O0 : Old Z n0 h0) (hp0 : ¬ (p0 < (0 : Int32))) (hp1 : p0 < p1) :
    MF l Z y1_checkIndex b1_ 2 none ws ⟨1, 0, 0, 14⟩ #[(.int p0), (.int p1)] h0 (Q_r_checkIndex Z p0 p1 h0 n0) := by
 refine own_body (plainFor_of_name pn_String564) (ef_2 p0 p1) (by decide) (by decide) ?_
 intro p e s m below meth c s₁ hx hby hml hown hnm hret hZ hh e0 X0
 have N0 := Fr.nil n0
 obtain ⟨T1, X1, e1, st1⟩ := getS2 X0 hx hZ hown (host := "") (Or.inl (w117 hw)) Via.refl e0 (Sta.ext O0.2 S_SIOOBE_FORMATTER) (g := (mkF m 2 #[vi p0, vi p1] [(.int p1), (.int p0)])) rfl (hb hby d9)
 obtain ⟨_, T2, L2, X2, hQ2, st2⟩ := own_static X1 hx hZ hown (w119 hw) (w120 hw) (w118 hw) (w121 hw) (by decide) (r_checkIndex_null l Z a0 hw [] p0 p1 h0 n0 Z0 hp0 hp1) e1 (W := 0) (by decide) (g := (mkF m 5 #[vi p0, vi p1] [.null, (.int p1), (.int p0)])) rfl hml.symm (argsL := [(.int p0), (.int p1), .null]) (rest := []) (lenOf pd_0 rfl) rfl rfl (own_wr rfl rfl) (hb hby d10)
 obtain ⟨rfl, N2q, e2⟩ := hQ2
 have N2 := Fr.app N0 N2q
 refine ⟨T2, _, none, X2, (fun h => by cases h <;> rfl), ?_, fun fs hr => ?_⟩
 · show Q_r_checkIndex Z p0 p1 h0 n0 _ T2.heap _
   rw [e2]
   exact ⟨rfl, N2, rfl⟩
 refine t_iloadN 1 X0.here hx hby d7 rfl rfl ?_
 refine t_iloadN 2 X0.here hx hby d8 rfl rfl ?_
 refine st1 _ ?_
 refine st2 _ ?_
 refine t_pop 9 X2.here hx hby d11 rfl rfl ?_
 exact X2.returnOut hx hret (hb hby d12) hr
theorem r_ScheckIndex_fo (l : Launch) (Z : State) (a0 : Array Value) (hw : HW Z a0) (ws : List Jvm.Cond) (p0 p1 : Int32) (fo : Addr) (h0 : Heap) (n0 : Nat) (Z0 : n0 ≤ h0.size) (S_SIOOBE_FORMATTER : Sa0 Z (.ref fo)) (O0 : Old Z n0 h0) (hp0 : ¬ (p0 < (0 : Int32))) (hp1 : p0 < p1) :
    MF l Z y1_checkIndex b1_ 2 none ws ⟨1, 0, 0, 14⟩ #[(.int p0), (.int p1)] h0 (Q_r_checkIndex Z p0 p1 h0 n0) := by
 refine own_body (plainFor_of_name pn_String564) (ef_2 p0 p1) (by decide) (by decide) ?_
 intro p e s m below meth c s₁ hx hby hml hown hnm hret hZ hh e0 X0
 have N0 := Fr.nil n0
 obtain ⟨T1, X1, e1, st1⟩ := getS2 X0 hx hZ hown (host := "") (Or.inl (w117 hw)) Via.refl e0 (Sta.ext O0.2 S_SIOOBE_FORMATTER) (g := (mkF m 2 #[vi p0, vi p1] [(.int p1), (.int p0)])) rfl (hb hby d9)
 obtain ⟨_, T2, L2, X2, hQ2, st2⟩ := own_static X1 hx hZ hown (w119 hw) (w120 hw) (w118 hw) (w121 hw) (by decide) (r_checkIndex_fo l Z a0 hw [] p0 p1 fo h0 n0 Z0 hp0 hp1) e1 (W := 0) (by decide) (g := (mkF m 5 #[vi p0, vi p1] [(.ref fo), (.int p1), (.int p0)])) rfl hml.symm (argsL := [(.int p0), (.int p1), (.ref fo)]) (rest := []) (lenOf pd_0 rfl) rfl rfl (own_wr rfl rfl) (hb hby d10)
 obtain ⟨rfl, N2q, e2⟩ := hQ2
 have N2 := Fr.app N0 N2q
 refine ⟨T2, _, none, X2, (fun h => by cases h <;> rfl), ?_, fun fs hr => ?_⟩
 · show Q_r_checkIndex Z p0 p1 h0 n0 _ T2.heap _
   rw [e2]
   exact ⟨rfl, N2, rfl⟩
 refine t_iloadN 1 X0.here hx hby d7 rfl rfl ?_
 refine t_iloadN 2 X0.here hx hby d8 rfl rfl ?_
 refine st1 _ ?_
 refine st2 _ ?_
 refine t_pop 9 X2.here hx hby d11 rfl rfl ?_
 exact X2.returnOut hx hret (hb hby d12) hr
theorem r_checkIndex (l : Launch) (Z : State) (a0 : Array Value) (hw : HW Z a0) (ws : List Jvm.Cond) (p0 p1 : Int32) (fm : Value) (h0 : Heap) (n0 : Nat) (Z0 : n0 ≤ h0.size) (hfm : fm.isRef = true) (S_SIOOBE_FORMATTER : Sa0 Z fm) (O0 : Old Z n0 h0) (hp0 : ¬ (p0 < (0 : Int32))) (hp1 : p0 < p1) :
    MF l Z y1_checkIndex b1_ 2 none ws ⟨1, 0, 0, 14⟩ #[(.int p0), (.int p1)] h0 (Q_r_checkIndex Z p0 p1 h0 n0) := by
  rcases ref_cases hfm with rfl | ⟨fx, rfl⟩
  · exact r_ScheckIndex_null l Z a0 hw ws p0 p1 h0 n0 Z0 S_SIOOBE_FORMATTER O0 hp0 hp1
  · exact r_ScheckIndex_fo l Z a0 hw ws p0 p1 fx h0 n0 Z0 S_SIOOBE_FORMATTER O0 hp0 hp1
abbrev b2_ := prog_34_method_2_code
theorem d13 : decode b2_ 0 = .ok (.aconst_null, 1) := by decide +kernel
theorem d14 : decode b2_ 1 = .ok (.astore_n 1, 1) := by decide +kernel
theorem d15 : decode b2_ 2 = .ok (.aload_n 0, 1) := by decide +kernel
theorem d16 : decode b2_ 3 = .ok (.invokevirtual 46, 3) := by decide +kernel
def w31 (hw : HW Z a0) := ow 31 hw rfl
abbrev Ex0 (Z : State) (h : Heap) (a : Addr) : Prop := Exa Z h a "java/lang/String"
def w34 (hw : HW Z a0) := ow 34 hw rfl
abbrev b3_ := jdk_42_method_54_code
theorem d17 : decode b3_ 0 = .ok (.aload_n 0, 1) := by decide +kernel
theorem d18 : decode b3_ 1 = .ok (.getfield 9, 3) := by decide +kernel
def w25 (hw : HW Z a0) := ow 25 hw rfl
abbrev Fd0 (Z : State) (h : Heap) (a : Addr) (v : Value) : Prop := Fld Z h a "java/lang/String" "value" "[B" v
abbrev sl0 (Z : State) : Nat := Jvm.RoadKit.slotOf Z "java/lang/String" "value" "[B"
theorem d19 : decode b3_ 4 = .ok (.arraylength, 1) := by decide +kernel
theorem d20 : decode b3_ 5 = .ok (.aload_n 0, 1) := by decide +kernel
theorem d21 : decode b3_ 6 = .ok (.invokevirtual 335, 3) := by decide +kernel
def w36 (hw : HW Z a0) := ow 36 hw rfl
def w39 (hw : HW Z a0) := ow 39 hw rfl
abbrev b4_ := jdk_42_method_152_code
theorem d22 : decode b4_ 0 = .ok (.getstatic 38, 3) := by decide +kernel
def w41 (hw : HW Z a0) := ow 41 hw rfl
theorem d23 : decode b4_ 3 = .ok (.ifCond .eq 10, 3) := by decide +kernel
theorem d24 : decode b4_ 6 = .ok (.aload_n 0, 1) := by decide +kernel
theorem d25 : decode b4_ 7 = .ok (.getfield 15, 3) := by decide +kernel
def w26 (hw : HW Z a0) := ow 26 hw rfl
abbrev Fd1 (Z : State) (h : Heap) (a : Addr) (v : Value) : Prop := Fld Z h a "java/lang/String" "coder" "B" v
abbrev sl1 (Z : State) : Nat := Jvm.RoadKit.slotOf Z "java/lang/String" "coder" "B"
theorem d26 : decode b4_ 10 = .ok (.goto 4, 3) := by decide +kernel
theorem d27 : decode b4_ 14 = .ok (.ireturn, 1) := by decide +kernel
theorem ef_3 (x0 : Addr) (m : MethodId) : entryFrame m #[(.ref x0)] 1 = mkF m 0 #[.val (.ref x0)] [] := by first | (simp [entryFrame, mkF, argsToLocals, Value.category]; done) | rfl
abbrev y2_coder : MethodName := ⟨"java/lang/String", "coder", "()B"⟩
def Q_r2_coder (Z : State) (o0 : Addr) (i_1 : Int32) (h0 : Heap) (n0 : Nat) (v : Option Value) (h : Heap) (L : List Loc) : Prop := v = some z0 ∧ Fr n0 L ∧ h = h0
theorem r2_coder (l : Launch) (Z : State) (a0 : Array Value) (hw : HW Z a0) (ws : List Jvm.Cond) (o0 : Addr) (i_1 : Int32) (h0 : Heap) (n0 : Nat) (Z0 : n0 ≤ h0.size) (sCS : SCS Z i_1) (O0 : Old Z n0 h0) (hp0 : ¬ (i_1 = (0 : Int32))) (F_o0_coder : Fd1 Z h0 o0 z0) :
    MF l Z y2_coder b4_ 1 (some .byte) ws ⟨0, 0, 0, 0⟩ #[(.ref o0)] h0 (Q_r2_coder Z o0 i_1 h0 n0) := by
 refine own_body (plainFor_of_name pn_String564) (ef_3 o0) (by decide) (by decide) ?_
 intro p e s m below meth c s₁ hx hby hml hown hnm hret hZ hh e0 X0
 have N0 := Fr.nil n0
 obtain ⟨T2, X2, e2, st2⟩ := getS2 X0 hx hZ hown (host := "") (Or.inl (w41 hw)) Via.refl e0 (Sta.ext O0.2 sCS) (g := (mkF m 0 #[vr o0] [])) rfl (hb hby d22)
 obtain ⟨T3, X3, e3, st3⟩ := getF X2 hx hZ hown (host := "") (Or.inl (w26 hw)) Via.refl e2 F_o0_coder (g := (mkF m 7 #[vr o0] [(.ref o0)])) rfl rfl (hb hby d25)
 refine ⟨T3, _, some z0, X3, (fun h => by cases h <;> rfl), ?_, fun fs hr => ?_⟩
 · show Q_r2_coder Z o0 i_1 h0 n0 _ T3.heap _
   rw [e3]
   exact ⟨rfl, N0, rfl⟩
 refine st2 _ ?_
 refine t_ifNo 6 X2.here hx hby d23 ((if0 _ _).trans (feq hp0).1) rfl ?_
 refine t_aloadN 7 X2.here hx hby d24 rfl rfl rfl ?_
 refine st3 _ ?_
 refine t_goto (pc := 10) 14 X3.here hx hby d26 (by decide) (by decide) ?_
 exact retN X3 hx (t := .byte) hret (by simp) (hb hby d27) hr
def w40 (hw : HW Z a0) := ow 40 hw rfl
def w7 (hw : HW Z a0) := ow 7 hw rfl
theorem pd_1 : parseMethodDescriptor "()B" = some ⟨[], some .byte⟩ := by decide +kernel
def w37 (hw : HW Z a0) := ow 37 hw rfl
def w38 (hw : HW Z a0) := ow 38 hw rfl
theorem d28 : decode b3_ 9 = .ok (.ishr, 1) := by decide +kernel
theorem d29 : decode b3_ 10 = .ok (.ireturn, 1) := by decide +kernel
abbrev y3_length : MethodName := ⟨"java/lang/String", "length", "()I"⟩
def Q_r1_length (Z : State) (o0 o_1 : Addr) (i_3 : Int32) (k_o_1 : ClassId) (i_4 : Int32) (h0 : Heap) (n0 : Nat) (v : Option Value) (h : Heap) (L : List Loc) : Prop := v = some (.int 1) ∧ Fr n0 L ∧ h = h0
theorem r1_length (l : Launch) (Z : State) (a0 : Array Value) (hw : HW Z a0) (ws : List Jvm.Cond) (o0 o_1 : Addr) (i_3 : Int32) (k_o_1 : ClassId) (i_4 : Int32) (h0 : Heap) (n0 : Nat) (Z0 : n0 ≤ h0.size) (F_o0_value : Fd0 Z h0 o0 (.ref o_1)) (V_o_1 : Arv Z h0 o_1 k_o_1 .byte 1 [(.int i_3)] z0) (E_o0 : Ex0 Z h0 o0) (sCS : SCS Z i_4) (F_o0_coder : Fd1 Z h0 o0 z0) (O0 : Old Z n0 h0) (hp0 : ¬ (i_4 = (0 : Int32))) :
    MF l Z y3_length b3_ 1 (some .int) ws ⟨1, 0, 0, 13⟩ #[(.ref o0)] h0 (Q_r1_length Z o0 o_1 i_3 k_o_1 i_4 h0 n0) := by
 refine own_body (plainFor_of_name pn_String564) (ef_3 o0) (by decide) (by decide) ?_
 intro p e s m below meth c s₁ hx hby hml hown hnm hret hZ hh e0 X0
 have N0 := Fr.nil n0
 obtain ⟨T2, X2, e2, st2⟩ := getF X0 hx hZ hown (host := "") (Or.inl (w25 hw)) Via.refl e0 F_o0_value (g := (mkF m 1 #[vr o0] [(.ref o0)])) rfl rfl (hb hby d18)
 obtain ⟨_, T5, L5, X5, hQ5, st5⟩ := own_virtual X2 hx hZ hown (w36 hw) (w37 hw) (nfS hZ (w39 hw)) (w39 hw) (w38 hw) (w7 hw) (w40 hw) (by decide) (r2_coder l Z a0 hw [] o0 i_4 h0 n0 Z0 sCS O0 hp0 F_o0_coder) e2 E_o0 (W := 1) (by decide) (g := (mkF m 6 #[vr o0] [(.ref o0), (.int 1)])) rfl hml.symm (argsL := []) (rest := [(.int 1)]) (lenOf pd_1 rfl) rfl rfl (own_wr rfl rfl) (hb hby d21)
 obtain ⟨rfl, N5q, e5⟩ := hQ5
 have N5 := Fr.app N0 N5q
 refine ⟨T5, _, some (.int 1), X5, (fun h => by cases h <;> rfl), ?_, fun fs hr => ?_⟩
 · show Q_r1_length Z o0 o_1 i_3 k_o_1 i_4 h0 n0 _ T5.heap _
   rw [e5]
   exact ⟨rfl, N5, rfl⟩
 refine t_aloadN 1 X0.here hx hby d17 rfl rfl rfl ?_
 refine st2 _ ?_
 refine own_arlen (pc' := 5) X2 hx hZ e2 V_o_1 (hb hby d19) rfl ?_
 refine t_aloadN 6 X2.here hx hby d20 rfl rfl rfl ?_
 refine st5 _ ?_
 refine t_ishr 10 (r := 1) X5.here hx hby d28 (by decide : ((1 : Int32) >>> ((0 : Int32) &&& 31)) = (1 : Int32)) rfl ?_
 exact retI X5 hx hret (hb hby d29) hr
def w35 (hw : HW Z a0) := ow 35 hw rfl
theorem pd_2 : parseMethodDescriptor "()I" = some ⟨[], some .int⟩ := by decide +kernel
def w32 (hw : HW Z a0) := ow 32 hw rfl
def w33 (hw : HW Z a0) := ow 33 hw rfl
theorem d30 : decode b2_ 6 = .ok (.iconst 1, 1) := by decide +kernel
theorem d31 : decode b2_ 7 = .ok (.if_icmp .ne 85, 3) := by decide +kernel
theorem d32 : decode b2_ 10 = .ok (.aload_n 0, 1) := by decide +kernel
theorem d33 : decode b2_ 11 = .ok (.iconst 0, 1) := by decide +kernel
theorem d34 : decode b2_ 12 = .ok (.invokevirtual 50, 3) := by decide +kernel
def w101 (hw : HW Z a0) := ow 101 hw rfl
def w104 (hw : HW Z a0) := ow 104 hw rfl
abbrev b5_ := jdk_42_method_56_code
theorem d35 : decode b5_ 0 = .ok (.aload_n 0, 1) := by decide +kernel
theorem d36 : decode b5_ 1 = .ok (.invokevirtual 492, 3) := by decide +kernel
def w106 (hw : HW Z a0) := ow 106 hw rfl
def w109 (hw : HW Z a0) := ow 109 hw rfl
abbrev b6_ := jdk_42_method_154_code
theorem d37 : decode b6_ 0 = .ok (.getstatic 38, 3) := by decide +kernel
theorem d38 : decode b6_ 3 = .ok (.ifCond .eq 14, 3) := by decide +kernel
theorem d39 : decode b6_ 6 = .ok (.aload_n 0, 1) := by decide +kernel
theorem d40 : decode b6_ 7 = .ok (.getfield 15, 3) := by decide +kernel
theorem d41 : decode b6_ 10 = .ok (.ifCond .ne 7, 3) := by decide +kernel
theorem d42 : decode b6_ 13 = .ok (.iconst 1, 1) := by decide +kernel
theorem d43 : decode b6_ 14 = .ok (.goto 4, 3) := by decide +kernel
theorem d44 : decode b6_ 18 = .ok (.ireturn, 1) := by decide +kernel
abbrev y4_isLatin1 : MethodName := ⟨"java/lang/String", "isLatin1", "()Z"⟩
def Q_r4_isLatin1 (Z : State) (o0 : Addr) (i_1 : Int32) (h0 : Heap) (n0 : Nat) (v : Option Value) (h : Heap) (L : List Loc) : Prop := v = some (.int 1) ∧ Fr n0 L ∧ h = h0
theorem r4_isLatin1 (l : Launch) (Z : State) (a0 : Array Value) (hw : HW Z a0) (ws : List Jvm.Cond) (o0 : Addr) (i_1 : Int32) (h0 : Heap) (n0 : Nat) (Z0 : n0 ≤ h0.size) (sCS : SCS Z i_1) (O0 : Old Z n0 h0) (hp0 : ¬ (i_1 = (0 : Int32))) (F_o0_coder : Fd1 Z h0 o0 z0) :
    MF l Z y4_isLatin1 b6_ 1 (some .boolean) ws ⟨0, 0, 0, 0⟩ #[(.ref o0)] h0 (Q_r4_isLatin1 Z o0 i_1 h0 n0) := by
 refine own_body (plainFor_of_name pn_String564) (ef_3 o0) (by decide) (by decide) ?_
 intro p e s m below meth c s₁ hx hby hml hown hnm hret hZ hh e0 X0
 have N0 := Fr.nil n0
 obtain ⟨T2, X2, e2, st2⟩ := getS2 X0 hx hZ hown (host := "") (Or.inl (w41 hw)) Via.refl e0 (Sta.ext O0.2 sCS) (g := (mkF m 0 #[vr o0] [])) rfl (hb hby d37)
 obtain ⟨T3, X3, e3, st3⟩ := getF X2 hx hZ hown (host := "") (Or.inl (w26 hw)) Via.refl e2 F_o0_coder (g := (mkF m 7 #[vr o0] [(.ref o0)])) rfl rfl (hb hby d40)
 refine ⟨T3, _, some (.int 1), X3, (fun h => by cases h <;> rfl), ?_, fun fs hr => ?_⟩
 · show Q_r4_isLatin1 Z o0 i_1 h0 n0 _ T3.heap _
   rw [e3]
   exact ⟨rfl, N0, rfl⟩
 refine st2 _ ?_
 refine t_ifNo 6 X2.here hx hby d38 ((if0 _ _).trans (feq hp0).1) rfl ?_
 refine t_aloadN 7 X2.here hx hby d39 rfl rfl rfl ?_
 refine st3 _ ?_
 refine t_ifNo 13 X3.here hx hby d41 (by decide) rfl ?_
 refine t_iconst 14 (r := 1) X3.here hx hby d42 (by decide) rfl ?_
 refine t_goto (pc := 14) 18 X3.here hx hby d43 (by decide) (by decide) ?_
 exact retN X3 hx (t := .boolean) hret (by simp) (hb hby d44) hr
def w110 (hw : HW Z a0) := ow 110 hw rfl
theorem pd_3 : parseMethodDescriptor "()Z" = some ⟨[], some .boolean⟩ := by decide +kernel
def w107 (hw : HW Z a0) := ow 107 hw rfl
def w108 (hw : HW Z a0) := ow 108 hw rfl
theorem d45 : decode b5_ 4 = .ok (.ifCond .eq 12, 3) := by decide +kernel
theorem d46 : decode b5_ 7 = .ok (.aload_n 0, 1) := by decide +kernel
theorem d47 : decode b5_ 8 = .ok (.getfield 9, 3) := by decide +kernel
theorem d48 : decode b5_ 11 = .ok (.iload_n 1, 1) := by decide +kernel
theorem d49 : decode b5_ 12 = .ok (.invokestatic 495, 3) := by decide +kernel
def w111 (hw : HW Z a0) := ow 111 hw rfl
abbrev b7_ := jdk_43_method_2_code
theorem d50 : decode b7_ 0 = .ok (.iload_n 1, 1) := by decide +kernel
theorem d51 : decode b7_ 1 = .ok (.aload_n 0, 1) := by decide +kernel
theorem d52 : decode b7_ 2 = .ok (.arraylength, 1) := by decide +kernel
theorem d53 : decode b7_ 3 = .ok (.invokestatic 9, 3) := by decide +kernel
def w114 (hw : HW Z a0) := ow 114 hw rfl
def w116 (hw : HW Z a0) := ow 116 hw rfl
theorem pd_4 : parseMethodDescriptor "(II)V" = some ⟨[.int, .int], none⟩ := by decide +kernel
def w115 (hw : HW Z a0) := ow 115 hw rfl
theorem d54 : decode b7_ 6 = .ok (.aload_n 0, 1) := by decide +kernel
theorem d55 : decode b7_ 7 = .ok (.iload_n 1, 1) := by decide +kernel
theorem d56 : decode b7_ 8 = .ok (.baload, 1) := by decide +kernel
theorem d57 : decode b7_ 9 = .ok (.sipush 255, 3) := by decide +kernel
theorem d58 : decode b7_ 12 = .ok (.iand, 1) := by decide +kernel
theorem d59 : decode b7_ 13 = .ok (.i2c, 1) := by decide +kernel
theorem d60 : decode b7_ 14 = .ok (.ireturn, 1) := by decide +kernel
theorem ef_4 (x0 : Addr) (x1 : Int32) (m : MethodId) : entryFrame m #[(.ref x0), (.int x1)] 2 = mkF m 0 #[.val (.ref x0), .val (.int x1)] [] := by first | (simp [entryFrame, mkF, argsToLocals, Value.category]; done) | rfl
theorem pn_StringLatin1120 : plainName "java/lang/StringLatin1" = true := by first | (simp [plainName, overriddenIn]; done) | decide +kernel
abbrev y5_charAt : MethodName := ⟨"java/lang/StringLatin1", "charAt", "([BI)C"⟩
def Q_r5_charAt (Z : State) (o0 : Addr) (i_1 : Int32) (k_o0 : ClassId) (u_2 : Value) (h0 : Heap) (n0 : Nat) (v : Option Value) (h : Heap) (L : List Loc) : Prop := v = some (.int (i_1 &&& (255 : Int32))) ∧ Fr n0 L ∧ h = h0
theorem r5_charAt (l : Launch) (Z : State) (a0 : Array Value) (hw : HW Z a0) (ws : List Jvm.Cond) (o0 : Addr) (i_1 : Int32) (k_o0 : ClassId) (u_2 : Value) (h0 : Heap) (n0 : Nat) (Z0 : n0 ≤ h0.size) (V_o0 : Arv Z h0 o0 k_o0 .byte 1 [(.int i_1)] z0) (S_SIOOBE_FORMATTER : Sa0 Z u_2) (hp0 : u_2.isRef = true) (O0 : Old Z n0 h0) :
    MF l Z y5_charAt b7_ 2 (some .char) ws ⟨2, 0, 0, 27⟩ #[(.ref o0), z0] h0 (Q_r5_charAt Z o0 i_1 k_o0 u_2 h0 n0) := by
 refine own_body (plainFor_of_name pn_StringLatin1120) (ef_4 o0 (0 : Int32)) (by decide) (by decide) ?_
 intro p e s m below meth c s₁ hx hby hml hown hnm hret hZ hh e0 X0
 have N0 := Fr.nil n0
 obtain ⟨_, T3, L3, X3, hQ3, st3⟩ := own_static X0 hx hZ hown (w114 hw) (w115 hw) (w7 hw) (w116 hw) (by decide) (r_checkIndex l Z a0 hw [] (0 : Int32) (1 : Int32) u_2 h0 n0 Z0 hp0 S_SIOOBE_FORMATTER O0 (by decide) (by decide)) e0 (W := 0) (by decide) (g := (mkF m 3 #[vr o0, vi 0] [(.int 1), z0])) rfl hml.symm (argsL := [z0, (.int 1)]) (rest := []) (lenOf pd_4 rfl) rfl rfl (own_wr rfl rfl) (hb hby d53)
 obtain ⟨rfl, N3q, e3⟩ := hQ3
 have N3 := Fr.app N0 N3q
 refine ⟨T3, _, some (.int (i_1 &&& (255 : Int32))), X3, (fun h => by cases h <;> rfl), ?_, fun fs hr => ?_⟩
 · show Q_r5_charAt Z o0 i_1 k_o0 u_2 h0 n0 _ T3.heap _
   rw [e3]
   exact ⟨rfl, N3, rfl⟩
 rw [← (show (nar .char (i_1 &&& (255 : Int32))) = (i_1 &&& (255 : Int32)) from (own_c2m255 _))] at hr
 refine t_iloadN 1 X0.here hx hby d50 rfl rfl ?_
 refine t_aloadN 2 X0.here hx hby d51 rfl rfl rfl ?_
 refine own_arlen (pc' := 3) X0 hx hZ e0 V_o0 (hb hby d52) rfl ?_
 refine st3 _ ?_
 refine t_aloadN 7 X3.here hx hby d54 rfl rfl rfl ?_
 refine t_iloadN 8 X3.here hx hby d55 rfl rfl ?_
 refine own_aldB (pc' := 9) X3 hx hZ e3 V_o0 (j := 0) (v := (.int i_1)) (by decide) rfl (hb hby d56) rfl ?_
 refine t_sipush 12 (r := 255) X3.here hx hby d57 (by decide) rfl ?_
 refine t_iand 13 X3.here hx hby d58 rfl rfl ?_
 refine t_i2c 14 (r := (i_1 &&& (255 : Int32))) X3.here hx hby d59 (own_c2m255 _) rfl ?_
 exact retN X3 hx (t := .char) hret (by simp) (hb hby d60) hr
def w113 (hw : HW Z a0) := ow 113 hw rfl
def w92 (hw : HW Z a0) := ow 92 hw rfl
theorem pd_5 : parseMethodDescriptor "([BI)C" = some ⟨[(.array .byte), .int], some .char⟩ := by decide +kernel
def w112 (hw : HW Z a0) := ow 112 hw rfl
theorem d61 : decode b5_ 15 = .ok (.ireturn, 1) := by decide +kernel
abbrev y6_charAt : MethodName := ⟨"java/lang/String", "charAt", "(I)C"⟩
def Q_r3_charAt (Z : State) (o0 : Addr) (i_1 : Int32) (o_3 : Addr) (i_5 : Int32) (k_o_3 : ClassId) (u_6 : Value) (h0 : Heap) (n0 : Nat) (v : Option Value) (h : Heap) (L : List Loc) : Prop := v = some (.int (i_5 &&& (255 : Int32))) ∧ Fr n0 L ∧ h = h0
theorem r3_charAt (l : Launch) (Z : State) (a0 : Array Value) (hw : HW Z a0) (ws : List Jvm.Cond) (o0 : Addr) (i_1 : Int32) (o_3 : Addr) (i_5 : Int32) (k_o_3 : ClassId) (u_6 : Value) (h0 : Heap) (n0 : Nat) (Z0 : n0 ≤ h0.size) (E_o0 : Ex0 Z h0 o0) (sCS : SCS Z i_1) (F_o0_coder : Fd1 Z h0 o0 z0) (O0 : Old Z n0 h0) (hp0 : ¬ (i_1 = (0 : Int32))) (F_o0_value : Fd0 Z h0 o0 (.ref o_3)) (V_o_3 : Arv Z h0 o_3 k_o_3 .byte 1 [(.int i_5)] z0) (S_SIOOBE_FORMATTER : Sa0 Z u_6) (hp1 : u_6.isRef = true) :
    MF l Z y6_charAt b5_ 2 (some .char) ws ⟨3, 0, 0, 40⟩ #[(.ref o0), z0] h0 (Q_r3_charAt Z o0 i_1 o_3 i_5 k_o_3 u_6 h0 n0) := by
 refine own_body (plainFor_of_name pn_String564) (ef_4 o0 (0 : Int32)) (by decide) (by decide) ?_
 intro p e s m below meth c s₁ hx hby hml hown hnm hret hZ hh e0 X0
 have N0 := Fr.nil n0
 obtain ⟨_, T2, L2, X2, hQ2, st2⟩ := own_virtual X0 hx hZ hown (w106 hw) (w107 hw) (nfS hZ (w109 hw)) (w109 hw) (w108 hw) (w7 hw) (w110 hw) (by decide) (r4_isLatin1 l Z a0 hw [] o0 i_1 h0 n0 Z0 sCS O0 hp0 F_o0_coder) e0 E_o0 (W := 0) (by decide) (g := (mkF m 1 #[vr o0, vi 0] [(.ref o0)])) rfl hml.symm (argsL := []) (rest := []) (lenOf pd_3 rfl) rfl rfl (own_wr rfl rfl) (hb hby d36)
 obtain ⟨rfl, N2q, e2⟩ := hQ2
 have N2 := Fr.app N0 N2q
 obtain ⟨T4, X4, e4, st4⟩ := getF X2 hx hZ hown (host := "") (Or.inl (w25 hw)) Via.refl e2 F_o0_value (g := (mkF m 8 #[vr o0, vi 0] [(.ref o0)])) rfl rfl (hb hby d47)
 obtain ⟨_, T7, L7, X7, hQ7, st7⟩ := own_static X4 hx hZ hown (w111 hw) (w112 hw) (w92 hw) (w113 hw) (by decide) (r5_charAt l Z a0 hw [] o_3 i_5 k_o_3 u_6 h0 n0 Z0 V_o_3 S_SIOOBE_FORMATTER hp1 O0) e4 (W := 0) (by decide) (g := (mkF m 12 #[vr o0, vi 0] [z0, (.ref o_3)])) rfl hml.symm (argsL := [(.ref o_3), z0]) (rest := []) (lenOf pd_5 rfl) rfl rfl (own_wr rfl rfl) (hb hby d49)
 obtain ⟨rfl, N7q, e7⟩ := hQ7
 have N7 := Fr.app N2 N7q
 refine ⟨T7, _, some (.int (i_5 &&& (255 : Int32))), X7, (fun h => by cases h <;> rfl), ?_, fun fs hr => ?_⟩
 · show Q_r3_charAt Z o0 i_1 o_3 i_5 k_o_3 u_6 h0 n0 _ T7.heap _
   rw [e7]
   exact ⟨rfl, N7, rfl⟩
 rw [← (show (nar .char (i_5 &&& (255 : Int32))) = (i_5 &&& (255 : Int32)) from (own_c2m255 _))] at hr
 refine t_aloadN 1 X0.here hx hby d35 rfl rfl rfl ?_
 refine st2 _ ?_
 refine t_ifNo 7 X2.here hx hby d45 (by decide) rfl ?_
 refine t_aloadN 8 X2.here hx hby d46 rfl rfl rfl ?_
 refine st4 _ ?_
 refine t_iloadN 12 X4.here hx hby d48 rfl rfl ?_
 refine st7 _ ?_
 exact retN X7 hx (t := .char) hret (by simp) (hb hby d61) hr
def w105 (hw : HW Z a0) := ow 105 hw rfl
theorem pd_6 : parseMethodDescriptor "(I)C" = some ⟨[.int], some .char⟩ := by decide +kernel
def w102 (hw : HW Z a0) := ow 102 hw rfl
def w103 (hw : HW Z a0) := ow 103 hw rfl
theorem d62 : decode b2_ 15 = .ok (.lookupswitch 75 #[(68, 57), (77, 63), (89, 69), (100, 57), (109, 63), (121, 69)], 57) := by decide +kernel
theorem d63 : decode b2_ 72 = .ok (.getstatic 16, 3) := by decide +kernel
def w150 (hw : HW Z a0) := ow 150 hw rfl
theorem d64 : decode b2_ 75 = .ok (.goto 16, 3) := by decide +kernel
theorem d65 : decode b2_ 91 = .ok (.astore_n 1, 1) := by decide +kernel
theorem d66 : decode b2_ 92 = .ok (.aload_n 1, 1) := by decide +kernel
theorem d67 : decode b2_ 93 = .ok (.invokestatic 54, 3) := by decide +kernel
def w42 (hw : HW Z a0) := ow 42 hw rfl
abbrev b8_ := jdk_32_method_4_code
theorem d68 : decode b8_ 0 = .ok (.aload_n 0, 1) := by decide +kernel
theorem d69 : decode b8_ 1 = .ok (.ifnonnull 9, 3) := by decide +kernel
theorem d70 : decode b8_ 10 = .ok (.new 2, 3) := by decide +kernel
def w137 (hw : HW Z a0) := ow 137 hw rfl
def w138 (hw : HW Z a0) := ow 138 hw rfl
def w44 (hw : HW Z a0) := ow 44 hw rfl
def w56 (hw : HW Z a0) := ow 56 hw rfl
abbrev Fd2 (Z : State) (h : Heap) (a : Addr) (v : Value) : Prop := Fld Z h a "java/util/Optional" "value" "Ljava/lang/Object;" v
abbrev sl2 (Z : State) : Nat := Jvm.RoadKit.slotOf Z "java/util/Optional" "value" "Ljava/lang/Object;"
theorem d71 : decode b8_ 13 = .ok (.dup, 1) := by decide +kernel
theorem d72 : decode b8_ 14 = .ok (.aload_n 0, 1) := by decide +kernel
theorem d73 : decode b8_ 15 = .ok (.invokespecial 23, 3) := by decide +kernel
def w139 (hw : HW Z a0) := ow 139 hw rfl
abbrev b9_ := jdk_32_method_2_code
theorem d74 : decode b9_ 0 = .ok (.aload_n 0, 1) := by decide +kernel
theorem d75 : decode b9_ 1 = .ok (.invokespecial 7, 3) := by decide +kernel
def w143 (hw : HW Z a0) := ow 143 hw rfl
def w17 (hw : HW Z a0) := ow 17 hw rfl
def w18 (hw : HW Z a0) := ow 18 hw rfl
theorem d76 : decode b9_ 4 = .ok (.aload_n 0, 1) := by decide +kernel
theorem d77 : decode b9_ 5 = .ok (.aload_n 1, 1) := by decide +kernel
theorem d78 : decode b9_ 6 = .ok (.putfield 13, 3) := by decide +kernel
def w55 (hw : HW Z a0) := ow 55 hw rfl
abbrev Ex1 (Z : State) (h : Heap) (a : Addr) : Prop := Exa Z h a "java/util/Optional"
theorem d79 : decode b9_ 9 = .ok (.return_, 1) := by decide +kernel
theorem ef_5 (x0 x1 : Addr) (m : MethodId) : entryFrame m #[(.ref x0), (.ref x1)] 2 = mkF m 0 #[.val (.ref x0), .val (.ref x1)] [] := by first | (simp [entryFrame, mkF, argsToLocals, Value.category]; done) | rfl
theorem pn_Optional799 : plainName "java/util/Optional" = true := by first | (simp [plainName, overriddenIn]; done) | decide +kernel
abbrev y7__init_ : MethodName := ⟨"java/util/Optional", "<init>", "(Ljava/lang/Object;)V"⟩
def WS_r7__init_ (Z : State) (o0 : Addr) : List (Addr × Nat) := [(o0, (sl2 Z))]
def Q_r7__init_ (Z : State) (o0 o1 : Addr) (h0 : Heap) (n0 : Nat) (v : Option Value) (h : Heap) (L : List Loc) : Prop := v = none ∧ Fr n0 L ∧ KL h0 h (WS_r7__init_ Z o0) ∧ Fd2 Z h o0 (.ref o1)
theorem r7__init_ (l : Launch) (Z : State) (a0 : Array Value) (hw : HW Z a0) (ws : List Jvm.Cond) (o0 o1 : Addr) (h0 : Heap) (n0 : Nat) (Z0 : n0 ≤ h0.size) (F_o0_value : Fd2 Z h0 o0 .null) (E_o0 : Ex1 Z h0 o0) (g_o0 : n0 ≤ o0) :
    MF l Z y7__init_ b9_ 2 none ws ⟨1, 0, 0, 12⟩ #[(.ref o0), (.ref o1)] h0 (Q_r7__init_ Z o0 o1 h0 n0) := by
 refine own_body (plainFor_of_name pn_Optional799) (ef_5 o0 o1) (by decide) (by decide) ?_
 intro p e s m below meth c s₁ hx hby hml hown hnm hret hZ hh e0 X0
 have N0 := Fr.nil n0
 obtain ⟨T1, X1, e1, st1⟩ := initO X0 hx hZ hown (w143 hw) (w17 hw) (w18 hw) e0 (g := (mkF m 1 #[vr o0, vr o1] [(.ref o0)])) rfl hml.symm rfl (hb hby d75) (by decide) (W := 0) (own_wr rfl rfl) (by decide)
 obtain ⟨T2, h2, X2, e2, W2, st2⟩ := putF X1 hx hZ hown (host := "") (Or.inl (w55 hw)) Via.refl e1 F_o0_value E_o0 (Or.inr ⟨(w56 hw), rfl, hnm⟩) (w138 hw) (ty := (.object "java/lang/Object")) (by decide) rfl rfl (g := (mkF m 6 #[vr o0, vr o1] [(.ref o1), (.ref o0)])) rfl rfl (hb hby d78)
 have K2 := KL.ofW W2
 have Fw2 : Fd2 Z h2 o0 (.ref o1) := Fld.same W2 F_o0_value
 have N2 := Fr.snoc X2 N0 g_o0
 have C0 := (KL.refl h0 (WS_r7__init_ Z o0)).trans K2 (naO (own_mi 0 rfl) na0)
 refine ⟨T2, _, none, X2, (fun h => by cases h <;> rfl), ?_, fun fs hr => ?_⟩
 · show Q_r7__init_ Z o0 o1 h0 n0 _ T2.heap _
   rw [e2]
   exact ⟨rfl, N2, C0, Fw2⟩
 refine t_aloadN 1 X0.here hx hby d74 rfl rfl rfl ?_
 refine st1 _ ?_
 refine t_aloadN 5 X1.here hx hby d76 rfl rfl rfl ?_
 refine t_aloadN 6 X1.here hx hby d77 rfl rfl rfl ?_
 refine st2 _ ?_
 exact X2.returnOut hx hret (hb hby d79) hr
def w142 (hw : HW Z a0) := ow 142 hw rfl
theorem pd_7 : parseMethodDescriptor "(Ljava/lang/Object;)V" = some ⟨[(.object "java/lang/Object")], none⟩ := by decide +kernel
def w140 (hw : HW Z a0) := ow 140 hw rfl
theorem d80 : decode b8_ 18 = .ok (.areturn, 1) := by decide +kernel
abbrev y8_ofNullable : MethodName := ⟨"java/util/Optional", "ofNullable", "(Ljava/lang/Object;)Ljava/util/Optional;"⟩
def Q_r6_ofNullable (Z : State) (o0 : Addr) (h0 : Heap) (n0 : Nat) (v : Option Value) (h : Heap) (L : List Loc) : Prop := ∃ b1 : Addr, v = some (.ref b1) ∧ Fr n0 L ∧ KL h0 h [] ∧ h0.size ≤ b1 ∧ Ex1 Z h b1 ∧ Fd2 Z h b1 (.ref o0)
theorem r6_ofNullable (l : Launch) (Z : State) (a0 : Array Value) (hw : HW Z a0) (ws : List Jvm.Cond) (o0 : Addr) (h0 : Heap) (n0 : Nat) (Z0 : n0 ≤ h0.size) :
    MF l Z y8_ofNullable b8_ 1 (some (.object "java/util/Optional")) ws ⟨2, 1, 1, 26⟩ #[(.ref o0)] h0 (Q_r6_ofNullable Z o0 h0 n0) := by
 refine own_body (plainFor_of_name pn_Optional799) (ef_3 o0) (by decide) (by decide) ?_
 intro p e s m below meth c s₁ hx hby hml hown hnm hret hZ hh e0 X0
 have N0 := Fr.nil n0
 obtain ⟨T1, h1, X1, e1, E1, A1, D1, -, st1⟩ := newO X0 hx hZ hown (w137 hw) (w138 hw) (w44 hw) e0 (g := (mkF m 10 #[vr o0] [])) rfl (hb hby d70) (by decide) (by decide)
 obtain ⟨b1, g1⟩ : ∃ z, z = h0.size := ⟨_, rfl⟩
 rw [← g1] at A1 D1 st1
 have ge_b1 : h0.size ≤ b1 := Nat.le_of_eq g1.symm
 have K1 := KL.ofE E1
 have F_b1_value : Fd2 Z h1 b1 .null := D1 (Or.inr (w56 hw)) (ty := (.object "java/lang/Object")) (by decide)
 have gg3 := Nat.le_trans Z0 ge_b1
 obtain ⟨_, T2, L2, X2, hQ2, st2⟩ := own_init X1 hx hZ rfl hown (w139 hw) (w140 hw) (w44 hw) (w142 hw) (by decide) (r7__init_ l Z a0 hw [] b1 o0 h1 n0 (Nat.le_trans Z0 K1.1) F_b1_value A1 gg3) e1 (W := 1) (by decide) (g := (mkF m 15 #[vr o0] [(.ref o0), (.ref b1), (.ref b1)])) rfl hml.symm (argsL := [(.ref o0)]) (rest := [(.ref b1)]) (lenOf pd_7 rfl) rfl rfl (own_wr rfl rfl) (hb hby d73)
 obtain ⟨rfl, N2q, K2, Q2_0⟩ := hQ2
 have N2 := Fr.app N0 N2q
 have C0 := (KL.refl h0 []).trans K1 na0
 have C1 := C0.trans K2 (naO (Or.inr ge_b1) na0)
 have f4 := (kExa K2 A1)
 refine ⟨T2, _, some (.ref b1), X2, (fun h => by cases h <;> rfl), ?_, fun fs hr => ?_⟩
 · show Q_r6_ofNullable Z o0 h0 n0 _ T2.heap _
   exact ⟨b1, rfl, N2, C1, ge_b1, f4, Q2_0⟩
 refine t_aloadN 1 X0.here hx hby d68 rfl rfl rfl ?_
 refine t_ifnonnullYes (pc := 1) 10 X0.here hx hby d69 (by decide) (by decide) ?_
 refine st1 _ ?_
 refine t_dup 14 X1.here hx hby d71 rfl rfl ?_
 refine t_aloadN 15 X1.here hx hby d72 rfl rfl rfl ?_
 refine st2 _ ?_
 jvm_step X2.here [X2.here.top, hx, (hb hby d80), X2.method', hret, Value.isRef, FieldType.isReference]
 first | (intro acts; rw [hr _ acts rfl rfl rfl]) | rw [hr _ _ rfl rfl rfl]
 exact Steps.refl _
def w45 (hw : HW Z a0) := ow 45 hw rfl
theorem pd_8 : parseMethodDescriptor "(Ljava/lang/Object;)Ljava/util/Optional;" = some ⟨[(.object "java/lang/Object")], some (.object "java/util/Optional")⟩ := by decide +kernel
def w43 (hw : HW Z a0) := ow 43 hw rfl
theorem d81 : decode b2_ 96 = .ok (.areturn, 1) := by decide +kernel
theorem ef_6 (x0 : Addr) (m : MethodId) : entryFrame m #[(.ref x0)] 2 = mkF m 0 #[.val (.ref x0), .unset] [] := by first | (simp [entryFrame, mkF, argsToLocals, Value.category]; done) | rfl
theorem pn_PaymentFrequency668 : plainName "com/example/rivulet/rivulet/instrument/PaymentFrequency" = true := by first | (simp [plainName, overriddenIn]; done) | decide +kernel
abbrev y9_unitOf : MethodName := ⟨"com/example/rivulet/rivulet/instrument/PaymentFrequency", "unitOf", "(Ljava/lang/String;)Ljava/util/Optional;"⟩
def Q_r_un_DAYS (Z : State) (o0 v0 : Addr) (x0 cs : Int32) (fm : Value) (st_DAYS : Addr) (k_v0 : ClassId) (h0 : Heap) (n0 : Nat) (v : Option Value) (h : Heap) (L : List Loc) : Prop := ∃ b1_4 : Addr, v = some (.ref b1_4) ∧ Fr n0 L ∧ KL h0 h [] ∧ h0.size ≤ b1_4 ∧ Ex1 Z h b1_4 ∧ Fd2 Z h b1_4 (.ref st_DAYS)
theorem r_un_DAYS_68 (l : Launch) (Z : State) (a0 : Array Value) (hw : HW Z a0) (ws : List Jvm.Cond) (o0 v0 : Addr) (x0 cs : Int32) (fm : Value) (st_DAYS : Addr) (k_v0 : ClassId) (h0 : Heap) (n0 : Nat) (Z0 : n0 ≤ h0.size) (hk : (x0 &&& (255 : Int32)) = (68 : Int32)) (hcs : ¬ (cs = (0 : Int32))) (hfm : fm.isRef = true) (E_o0 : Ex0 Z h0 o0) (F_o0_value : Fd0 Z h0 o0 (.ref v0)) (V_v0 : Arv Z h0 v0 k_v0 .byte 1 [(.int x0)] z0) (sCS : SCS Z cs) (F_o0_coder : Fd1 Z h0 o0 z0) (O0 : Old Z n0 h0) (S_SIOOBE_FORMATTER : Sa0 Z fm) (S_DAYS : Sa1 Z (.ref st_DAYS)) :
    MF l Z y9_unitOf b2_ 2 (some (.object "java/util/Optional")) ws ⟨4, 1, 1, 53⟩ #[(.ref o0)] h0 (Q_r_un_DAYS Z o0 v0 x0 cs fm st_DAYS k_v0 h0 n0) := by
 refine own_body (plainFor_of_name pn_PaymentFrequency668) (ef_6 o0) (by decide) (by decide) ?_
 intro p e s m below meth c s₁ hx hby hml hown hnm hret hZ hh e0 X0
 have N0 := Fr.nil n0
 obtain ⟨_, T1, L1, X1, hQ1, st1⟩ := own_virtual X0 hx hZ hown (w31 hw) (w32 hw) (nfS hZ (w34 hw)) (w34 hw) (w33 hw) (w7 hw) (w35 hw) (by decide) (r1_length l Z a0 hw [] o0 v0 x0 k_v0 cs h0 n0 Z0 F_o0_value V_v0 E_o0 sCS F_o0_coder O0 hcs) e0 E_o0 (W := 0) (by decide) (g := (mkF m 3 #[vr o0, .val .null] [(.ref o0)])) rfl hml.symm (argsL := []) (rest := []) (lenOf pd_2 rfl) rfl rfl (own_wr rfl rfl) (hb hby d16)
 obtain ⟨rfl, N1q, e1⟩ := hQ1
 have N1 := Fr.app N0 N1q
 obtain ⟨_, T2, L2, X2, hQ2, st2⟩ := own_virtual X1 hx hZ hown (w101 hw) (w102 hw) (nfS hZ (w104 hw)) (w104 hw) (w103 hw) (w7 hw) (w105 hw) (by decide) (r3_charAt l Z a0 hw [] o0 cs v0 x0 k_v0 fm h0 n0 Z0 E_o0 sCS F_o0_coder O0 hcs F_o0_value V_v0 S_SIOOBE_FORMATTER hfm) e1 E_o0 (W := 0) (by decide) (g := (mkF m 12 #[vr o0, .val .null] [z0, (.ref o0)])) rfl hml.symm (argsL := [z0]) (rest := []) (lenOf pd_6 rfl) rfl rfl (own_wr rfl rfl) (hb hby d34)
 obtain ⟨rfl, N2q, e2⟩ := hQ2
 have N2 := Fr.app N1 N2q
 obtain ⟨T3, X3, e3, st3⟩ := getS2 X2 hx hZ hown (host := "") (Or.inl (w150 hw)) Via.refl e2 (Sta.ext O0.2 S_DAYS) (g := (mkF m 72 #[vr o0, .val .null] [])) rfl (hb hby d63)
 obtain ⟨_, T4, L4, X4, hQ4, st4⟩ := own_static X3 hx hZ hown (w42 hw) (w43 hw) (w44 hw) (w45 hw) (by decide) (r6_ofNullable l Z a0 hw [] st_DAYS h0 n0 Z0) e3 (W := 0) (by decide) (g := (mkF m 93 #[vr o0, vr st_DAYS] [(.ref st_DAYS)])) rfl hml.symm (argsL := [(.ref st_DAYS)]) (rest := []) (lenOf pd_8 rfl) rfl rfl (own_wr rfl rfl) (hb hby d67)
 obtain ⟨b1_4, rfl, N4q, K4, Q4_0, Q4_1, Q4_2⟩ := hQ4
 have N4 := Fr.app N2 N4q
 have C0 := (KL.refl h0 []).trans K4 na0
 refine ⟨T4, _, some (.ref b1_4), X4, (fun h => by cases h <;> rfl), ?_, fun fs hr => ?_⟩
 · show Q_r_un_DAYS Z o0 v0 x0 cs fm st_DAYS k_v0 h0 n0 _ T4.heap _
   exact ⟨b1_4, rfl, N4, C0, Q4_0, Q4_1, Q4_2⟩
 refine t_aconst_null 1 X0.here hx hby d13 rfl ?_
 refine t_astoreN (pc' := 2) (L' := #[vr o0, .val .null]) X0.here hx hby d14 rfl rfl rfl ?_
 refine t_aloadN 3 X0.here hx hby d15 rfl rfl rfl ?_
 refine st1 _ ?_
 refine t_iconst 7 (r := 1) X1.here hx hby d30 (by decide) rfl ?_
 refine t_icmpNo 10 X1.here hx hby d31 (by decide) rfl ?_
 refine t_aloadN 11 X1.here hx hby d32 rfl rfl rfl ?_
 refine t_iconst 12 (r := 0) X1.here hx hby d33 (by decide) rfl ?_
 refine st2 _ ?_
 refine own_lswH (pc := 15) (pc' := 72) X2 hx (hb hby d62) (by decide) (kl := (68 : Int32)) hk (a := 68) (off := 57) (by decide) (by decide) (by decide) ?_
 refine st3 _ ?_
 refine t_goto (pc := 75) 91 X3.here hx hby d64 (by decide) (by decide) ?_
 refine t_astoreN (pc' := 92) (L' := #[vr o0, vr st_DAYS]) X3.here hx hby d65 rfl rfl rfl ?_
 refine t_aloadN 93 X3.here hx hby d66 rfl rfl rfl ?_
 refine st4 _ ?_
 jvm_step X4.here [X4.here.top, hx, (hb hby d81), X4.method', hret, Value.isRef, FieldType.isReference]
 first | (intro acts; rw [hr _ acts rfl rfl rfl]) | rw [hr _ _ rfl rfl rfl]
 exact Steps.refl _
theorem r_un_DAYS_100 (l : Launch) (Z : State) (a0 : Array Value) (hw : HW Z a0) (ws : List Jvm.Cond) (o0 v0 : Addr) (x0 cs : Int32) (fm : Value) (st_DAYS : Addr) (k_v0 : ClassId) (h0 : Heap) (n0 : Nat) (Z0 : n0 ≤ h0.size) (hk : (x0 &&& (255 : Int32)) = (100 : Int32)) (hcs : ¬ (cs = (0 : Int32))) (hfm : fm.isRef = true) (E_o0 : Ex0 Z h0 o0) (F_o0_value : Fd0 Z h0 o0 (.ref v0)) (V_v0 : Arv Z h0 v0 k_v0 .byte 1 [(.int x0)] z0) (sCS : SCS Z cs) (F_o0_coder : Fd1 Z h0 o0 z0) (O0 : Old Z n0 h0) (S_SIOOBE_FORMATTER : Sa0 Z fm) (S_DAYS : Sa1 Z (.ref st_DAYS)) :
    MF l Z y9_unitOf b2_ 2 (some (.object "java/util/Optional")) ws ⟨4, 1, 1, 53⟩ #[(.ref o0)] h0 (Q_r_un_DAYS Z o0 v0 x0 cs fm st_DAYS k_v0 h0 n0) := by
 refine own_body (plainFor_of_name pn_PaymentFrequency668) (ef_6 o0) (by decide) (by decide) ?_
 intro p e s m below meth c s₁ hx hby hml hown hnm hret hZ hh e0 X0
 have N0 := Fr.nil n0
 obtain ⟨_, T1, L1, X1, hQ1, st1⟩ := own_virtual X0 hx hZ hown (w31 hw) (w32 hw) (nfS hZ (w34 hw)) (w34 hw) (w33 hw) (w7 hw) (w35 hw) (by decide) (r1_length l Z a0 hw [] o0 v0 x0 k_v0 cs h0 n0 Z0 F_o0_value V_v0 E_o0 sCS F_o0_coder O0 hcs) e0 E_o0 (W := 0) (by decide) (g := (mkF m 3 #[vr o0, .val .null] [(.ref o0)])) rfl hml.symm (argsL := []) (rest := []) (lenOf pd_2 rfl) rfl rfl (own_wr rfl rfl) (hb hby d16)
 obtain ⟨rfl, N1q, e1⟩ := hQ1
 have N1 := Fr.app N0 N1q
 obtain ⟨_, T2, L2, X2, hQ2, st2⟩ := own_virtual X1 hx hZ hown (w101 hw) (w102 hw) (nfS hZ (w104 hw)) (w104 hw) (w103 hw) (w7 hw) (w105 hw) (by decide) (r3_charAt l Z a0 hw [] o0 cs v0 x0 k_v0 fm h0 n0 Z0 E_o0 sCS F_o0_coder O0 hcs F_o0_value V_v0 S_SIOOBE_FORMATTER hfm) e1 E_o0 (W := 0) (by decide) (g := (mkF m 12 #[vr o0, .val .null] [z0, (.ref o0)])) rfl hml.symm (argsL := [z0]) (rest := []) (lenOf pd_6 rfl) rfl rfl (own_wr rfl rfl) (hb hby d34)
 obtain ⟨rfl, N2q, e2⟩ := hQ2
 have N2 := Fr.app N1 N2q
 obtain ⟨T3, X3, e3, st3⟩ := getS2 X2 hx hZ hown (host := "") (Or.inl (w150 hw)) Via.refl e2 (Sta.ext O0.2 S_DAYS) (g := (mkF m 72 #[vr o0, .val .null] [])) rfl (hb hby d63)
 obtain ⟨_, T4, L4, X4, hQ4, st4⟩ := own_static X3 hx hZ hown (w42 hw) (w43 hw) (w44 hw) (w45 hw) (by decide) (r6_ofNullable l Z a0 hw [] st_DAYS h0 n0 Z0) e3 (W := 0) (by decide) (g := (mkF m 93 #[vr o0, vr st_DAYS] [(.ref st_DAYS)])) rfl hml.symm (argsL := [(.ref st_DAYS)]) (rest := []) (lenOf pd_8 rfl) rfl rfl (own_wr rfl rfl) (hb hby d67)
 obtain ⟨b1_4, rfl, N4q, K4, Q4_0, Q4_1, Q4_2⟩ := hQ4
 have N4 := Fr.app N2 N4q
 have C0 := (KL.refl h0 []).trans K4 na0
 refine ⟨T4, _, some (.ref b1_4), X4, (fun h => by cases h <;> rfl), ?_, fun fs hr => ?_⟩
 · show Q_r_un_DAYS Z o0 v0 x0 cs fm st_DAYS k_v0 h0 n0 _ T4.heap _
   exact ⟨b1_4, rfl, N4, C0, Q4_0, Q4_1, Q4_2⟩
 refine t_aconst_null 1 X0.here hx hby d13 rfl ?_
 refine t_astoreN (pc' := 2) (L' := #[vr o0, .val .null]) X0.here hx hby d14 rfl rfl rfl ?_
 refine t_aloadN 3 X0.here hx hby d15 rfl rfl rfl ?_
 refine st1 _ ?_
 refine t_iconst 7 (r := 1) X1.here hx hby d30 (by decide) rfl ?_
 refine t_icmpNo 10 X1.here hx hby d31 (by decide) rfl ?_
 refine t_aloadN 11 X1.here hx hby d32 rfl rfl rfl ?_
 refine t_iconst 12 (r := 0) X1.here hx hby d33 (by decide) rfl ?_
 refine st2 _ ?_
 refine own_lswH (pc := 15) (pc' := 72) X2 hx (hb hby d62) (by decide) (kl := (100 : Int32)) hk (a := 100) (off := 57) (by decide) (by decide) (by decide) ?_
 refine st3 _ ?_
 refine t_goto (pc := 75) 91 X3.here hx hby d64 (by decide) (by decide) ?_
 refine t_astoreN (pc' := 92) (L' := #[vr o0, vr st_DAYS]) X3.here hx hby d65 rfl rfl rfl ?_
 refine t_aloadN 93 X3.here hx hby d66 rfl rfl rfl ?_
 refine st4 _ ?_
 jvm_step X4.here [X4.here.top, hx, (hb hby d81), X4.method', hret, Value.isRef, FieldType.isReference]
 first | (intro acts; rw [hr _ acts rfl rfl rfl]) | rw [hr _ _ rfl rfl rfl]
 exact Steps.refl _
theorem r_un_DAYS (l : Launch) (Z : State) (a0 : Array Value) (hw : HW Z a0) (ws : List Jvm.Cond) (o0 v0 : Addr) (x0 cs : Int32) (fm : Value) (st_DAYS : Addr) (k_v0 : ClassId) (h0 : Heap) (n0 : Nat) (Z0 : n0 ≤ h0.size) (hk : (x0 &&& (255 : Int32)) = (68 : Int32) ∨ (x0 &&& (255 : Int32)) = (100 : Int32)) (hcs : ¬ (cs = (0 : Int32))) (hfm : fm.isRef = true) (E_o0 : Ex0 Z h0 o0) (F_o0_value : Fd0 Z h0 o0 (.ref v0)) (V_v0 : Arv Z h0 v0 k_v0 .byte 1 [(.int x0)] z0) (sCS : SCS Z cs) (F_o0_coder : Fd1 Z h0 o0 z0) (O0 : Old Z n0 h0) (S_SIOOBE_FORMATTER : Sa0 Z fm) (S_DAYS : Sa1 Z (.ref st_DAYS)) :
    MF l Z y9_unitOf b2_ 2 (some (.object "java/util/Optional")) ws ⟨4, 1, 1, 53⟩ #[(.ref o0)] h0 (Q_r_un_DAYS Z o0 v0 x0 cs fm st_DAYS k_v0 h0 n0) := by
  rcases hk with hk | hk
  · exact r_un_DAYS_68 l Z a0 hw ws o0 v0 x0 cs fm st_DAYS k_v0 h0 n0 Z0 hk hcs hfm E_o0 F_o0_value V_v0 sCS F_o0_coder O0 S_SIOOBE_FORMATTER S_DAYS
  · exact r_un_DAYS_100 l Z a0 hw ws o0 v0 x0 cs fm st_DAYS k_v0 h0 n0 Z0 hk hcs hfm E_o0 F_o0_value V_v0 sCS F_o0_coder O0 S_SIOOBE_FORMATTER S_DAYS
abbrev b10_ := method_4_code
theorem d82 : decode b10_ 0 = .ok (.iload_n 0, 1) := by decide +kernel
theorem d83 : decode b10_ 1 = .ok (.iconst 1, 1) := by decide +kernel
theorem d84 : decode b10_ 2 = .ok (.if_icmp .eq 5, 3) := by decide +kernel
theorem d85 : decode b10_ 7 = .ok (.iload_n 1, 1) := by decide +kernel
theorem d86 : decode b10_ 8 = .ok (.bipush 68, 2) := by decide +kernel
theorem d87 : decode b10_ 10 = .ok (.if_icmp .eq 9, 3) := by decide +kernel
theorem d88 : decode b10_ 19 = .ok (.getstatic 44, 3) := by decide +kernel
def w151 (hw : HW Z a0) := ow 151 hw rfl
theorem d89 : decode b10_ 22 = .ok (.areturn, 1) := by decide +kernel
theorem pn_PaymentFrequencyUnitOfPinLaw855 : plainName "com/example/rivulet/rivulet/instrument/PaymentFrequencyUnitOfPinLaw" = true := by first | (simp [plainName, overriddenIn]; done) | decide +kernel
abbrev y10_expected : MethodName := ⟨"com/example/rivulet/rivulet/instrument/PaymentFrequencyUnitOfPinLaw", "expected", "(IC)Ljava/time/temporal/ChronoUnit;"⟩
def Q_r_ex_DAYS (Z : State) (p1 : Int32) (st_DAYS : Addr) (h0 : Heap) (n0 : Nat) (v : Option Value) (h : Heap) (L : List Loc) : Prop := v = some (.ref st_DAYS) ∧ Fr n0 L ∧ h = h0
theorem r_ex_DAYS_68 (l : Launch) (Z : State) (a0 : Array Value) (hw : HW Z a0) (ws : List Jvm.Cond) (p1 : Int32) (st_DAYS : Addr) (h0 : Heap) (n0 : Nat) (Z0 : n0 ≤ h0.size) (hk : p1 = (68 : Int32)) (S_DAYS : Sa1 Z (.ref st_DAYS)) (O0 : Old Z n0 h0) :
    MF l Z y10_expected b10_ 2 (some (.object "java/time/temporal/ChronoUnit")) ws ⟨0, 0, 0, 0⟩ #[(.int 1), (.int p1)] h0 (Q_r_ex_DAYS Z p1 st_DAYS h0 n0) := by
 refine own_body (plainFor_of_name pn_PaymentFrequencyUnitOfPinLaw855) (ef_2 (1 : Int32) p1) (by decide) (by decide) ?_
 intro p e s m below meth c s₁ hx hby hml hown hnm hret hZ hh e0 X0
 have N0 := Fr.nil n0
 obtain ⟨T1, X1, e1, st1⟩ := getS2 X0 hx hZ hown (host := "") (Or.inl (w151 hw)) Via.refl e0 (Sta.ext O0.2 S_DAYS) (g := (mkF m 19 #[vi 1, vi p1] [])) rfl (hb hby d88)
 refine ⟨T1, _, some (.ref st_DAYS), X1, (fun h => by cases h <;> rfl), ?_, fun fs hr => ?_⟩
 · show Q_r_ex_DAYS Z p1 st_DAYS h0 n0 _ T1.heap _
   rw [e1]
   exact ⟨rfl, N0, rfl⟩
 refine t_iloadN 1 X0.here hx hby d82 rfl rfl ?_
 refine t_iconst 2 (r := 1) X0.here hx hby d83 (by decide) rfl ?_
 refine t_icmpYes (pc := 2) 7 X0.here hx hby d84 (by decide) (by decide) (by decide) ?_
 refine t_iloadN 8 X0.here hx hby d85 rfl rfl ?_
 refine t_bipush 10 (r := 68) X0.here hx hby d86 (by decide) rfl ?_
 refine t_icmpYes (pc := 10) 19 X0.here hx hby d87 (teq hk).1 (by decide) (by decide) ?_
 refine st1 _ ?_
 jvm_step X1.here [X1.here.top, hx, (hb hby d89), X1.method', hret, Value.isRef, FieldType.isReference]
 first | (intro acts; rw [hr _ acts rfl rfl rfl]) | rw [hr _ _ rfl rfl rfl]
 exact Steps.refl _
theorem d90 : decode b10_ 13 = .ok (.iload_n 1, 1) := by decide +kernel
theorem d91 : decode b10_ 14 = .ok (.bipush 100, 2) := by decide +kernel
theorem d92 : decode b10_ 16 = .ok (.if_icmp .ne 7, 3) := by decide +kernel
theorem r_ex_DAYS_100 (l : Launch) (Z : State) (a0 : Array Value) (hw : HW Z a0) (ws : List Jvm.Cond) (p1 : Int32) (st_DAYS : Addr) (h0 : Heap) (n0 : Nat) (Z0 : n0 ≤ h0.size) (hk : p1 = (100 : Int32)) (S_DAYS : Sa1 Z (.ref st_DAYS)) (O0 : Old Z n0 h0) :
    MF l Z y10_expected b10_ 2 (some (.object "java/time/temporal/ChronoUnit")) ws ⟨0, 0, 0, 0⟩ #[(.int 1), (.int p1)] h0 (Q_r_ex_DAYS Z p1 st_DAYS h0 n0) := by
 refine own_body (plainFor_of_name pn_PaymentFrequencyUnitOfPinLaw855) (ef_2 (1 : Int32) p1) (by decide) (by decide) ?_
 intro p e s m below meth c s₁ hx hby hml hown hnm hret hZ hh e0 X0
 have N0 := Fr.nil n0
 obtain ⟨T1, X1, e1, st1⟩ := getS2 X0 hx hZ hown (host := "") (Or.inl (w151 hw)) Via.refl e0 (Sta.ext O0.2 S_DAYS) (g := (mkF m 19 #[vi 1, vi p1] [])) rfl (hb hby d88)
 refine ⟨T1, _, some (.ref st_DAYS), X1, (fun h => by cases h <;> rfl), ?_, fun fs hr => ?_⟩
 · show Q_r_ex_DAYS Z p1 st_DAYS h0 n0 _ T1.heap _
   rw [e1]
   exact ⟨rfl, N0, rfl⟩
 refine t_iloadN 1 X0.here hx hby d82 rfl rfl ?_
 refine t_iconst 2 (r := 1) X0.here hx hby d83 (by decide) rfl ?_
 refine t_icmpYes (pc := 2) 7 X0.here hx hby d84 (by decide) (by decide) (by decide) ?_
 refine t_iloadN 8 X0.here hx hby d85 rfl rfl ?_
 refine t_bipush 10 (r := 68) X0.here hx hby d86 (by decide) rfl ?_
 refine t_icmpNo 13 X0.here hx hby d87 (feq (own_nek hk (by decide))).1 rfl ?_
 refine t_iloadN 14 X0.here hx hby d90 rfl rfl ?_
 refine t_bipush 16 (r := 100) X0.here hx hby d91 (by decide) rfl ?_
 refine t_icmpNo 19 X0.here hx hby d92 (teq hk).2 rfl ?_
 refine st1 _ ?_
 jvm_step X1.here [X1.here.top, hx, (hb hby d89), X1.method', hret, Value.isRef, FieldType.isReference]
 first | (intro acts; rw [hr _ acts rfl rfl rfl]) | rw [hr _ _ rfl rfl rfl]
 exact Steps.refl _
theorem r_ex_DAYS (l : Launch) (Z : State) (a0 : Array Value) (hw : HW Z a0) (ws : List Jvm.Cond) (p1 : Int32) (st_DAYS : Addr) (h0 : Heap) (n0 : Nat) (Z0 : n0 ≤ h0.size) (hk : p1 = (68 : Int32) ∨ p1 = (100 : Int32)) (S_DAYS : Sa1 Z (.ref st_DAYS)) (O0 : Old Z n0 h0) :
    MF l Z y10_expected b10_ 2 (some (.object "java/time/temporal/ChronoUnit")) ws ⟨0, 0, 0, 0⟩ #[(.int 1), (.int p1)] h0 (Q_r_ex_DAYS Z p1 st_DAYS h0 n0) := by
  rcases hk with hk | hk
  · exact r_ex_DAYS_68 l Z a0 hw ws p1 st_DAYS h0 n0 Z0 hk S_DAYS O0
  · exact r_ex_DAYS_100 l Z a0 hw ws p1 st_DAYS h0 n0 Z0 hk S_DAYS O0
theorem d93 : decode b2_ 78 = .ok (.getstatic 22, 3) := by decide +kernel
def w152 (hw : HW Z a0) := ow 152 hw rfl
theorem d94 : decode b2_ 81 = .ok (.goto 10, 3) := by decide +kernel
def Q_r_un_MONTHS (Z : State) (o0 v0 : Addr) (x0 cs : Int32) (fm : Value) (st_MONTHS : Addr) (k_v0 : ClassId) (h0 : Heap) (n0 : Nat) (v : Option Value) (h : Heap) (L : List Loc) : Prop := ∃ b1_4 : Addr, v = some (.ref b1_4) ∧ Fr n0 L ∧ KL h0 h [] ∧ h0.size ≤ b1_4 ∧ Ex1 Z h b1_4 ∧ Fd2 Z h b1_4 (.ref st_MONTHS)
theorem r_un_MONTHS_77 (l : Launch) (Z : State) (a0 : Array Value) (hw : HW Z a0) (ws : List Jvm.Cond) (o0 v0 : Addr) (x0 cs : Int32) (fm : Value) (st_MONTHS : Addr) (k_v0 : ClassId) (h0 : Heap) (n0 : Nat) (Z0 : n0 ≤ h0.size) (hk : (x0 &&& (255 : Int32)) = (77 : Int32)) (hcs : ¬ (cs = (0 : Int32))) (hfm : fm.isRef = true) (E_o0 : Ex0 Z h0 o0) (F_o0_value : Fd0 Z h0 o0 (.ref v0)) (V_v0 : Arv Z h0 v0 k_v0 .byte 1 [(.int x0)] z0) (sCS : SCS Z cs) (F_o0_coder : Fd1 Z h0 o0 z0) (O0 : Old Z n0 h0) (S_SIOOBE_FORMATTER : Sa0 Z fm) (S_MONTHS : Sa2 Z (.ref st_MONTHS)) :
    MF l Z y9_unitOf b2_ 2 (some (.object "java/util/Optional")) ws ⟨4, 1, 1, 53⟩ #[(.ref o0)] h0 (Q_r_un_MONTHS Z o0 v0 x0 cs fm st_MONTHS k_v0 h0 n0) := by
 refine own_body (plainFor_of_name pn_PaymentFrequency668) (ef_6 o0) (by decide) (by decide) ?_
 intro p e s m below meth c s₁ hx hby hml hown hnm hret hZ hh e0 X0
 have N0 := Fr.nil n0
 obtain ⟨_, T1, L1, X1, hQ1, st1⟩ := own_virtual X0 hx hZ hown (w31 hw) (w32 hw) (nfS hZ (w34 hw)) (w34 hw) (w33 hw) (w7 hw) (w35 hw) (by decide) (r1_length l Z a0 hw [] o0 v0 x0 k_v0 cs h0 n0 Z0 F_o0_value V_v0 E_o0 sCS F_o0_coder O0 hcs) e0 E_o0 (W := 0) (by decide) (g := (mkF m 3 #[vr o0, .val .null] [(.ref o0)])) rfl hml.symm (argsL := []) (rest := []) (lenOf pd_2 rfl) rfl rfl (own_wr rfl rfl) (hb hby d16)
 obtain ⟨rfl, N1q, e1⟩ := hQ1
 have N1 := Fr.app N0 N1q
 obtain ⟨_, T2, L2, X2, hQ2, st2⟩ := own_virtual X1 hx hZ hown (w101 hw) (w102 hw) (nfS hZ (w104 hw)) (w104 hw) (w103 hw) (w7 hw) (w105 hw) (by decide) (r3_charAt l Z a0 hw [] o0 cs v0 x0 k_v0 fm h0 n0 Z0 E_o0 sCS F_o0_coder O0 hcs F_o0_value V_v0 S_SIOOBE_FORMATTER hfm) e1 E_o0 (W := 0) (by decide) (g := (mkF m 12 #[vr o0, .val .null] [z0, (.ref o0)])) rfl hml.symm (argsL := [z0]) (rest := []) (lenOf pd_6 rfl) rfl rfl (own_wr rfl rfl) (hb hby d34)
 obtain ⟨rfl, N2q, e2⟩ := hQ2
 have N2 := Fr.app N1 N2q
 obtain ⟨T3, X3, e3, st3⟩ := getS2 X2 hx hZ hown (host := "") (Or.inl (w152 hw)) Via.refl e2 (Sta.ext O0.2 S_MONTHS) (g := (mkF m 78 #[vr o0, .val .null] [])) rfl (hb hby d93)
 obtain ⟨_, T4, L4, X4, hQ4, st4⟩ := own_static X3 hx hZ hown (w42 hw) (w43 hw) (w44 hw) (w45 hw) (by decide) (r6_ofNullable l Z a0 hw [] st_MONTHS h0 n0 Z0) e3 (W := 0) (by decide) (g := (mkF m 93 #[vr o0, vr st_MONTHS] [(.ref st_MONTHS)])) rfl hml.symm (argsL := [(.ref st_MONTHS)]) (rest := []) (lenOf pd_8 rfl) rfl rfl (own_wr rfl rfl) (hb hby d67)
 obtain ⟨b1_4, rfl, N4q, K4, Q4_0, Q4_1, Q4_2⟩ := hQ4
 have N4 := Fr.app N2 N4q
 have C0 := (KL.refl h0 []).trans K4 na0
 refine ⟨T4, _, some (.ref b1_4), X4, (fun h => by cases h <;> rfl), ?_, fun fs hr => ?_⟩
 · show Q_r_un_MONTHS Z o0 v0 x0 cs fm st_MONTHS k_v0 h0 n0 _ T4.heap _
   exact ⟨b1_4, rfl, N4, C0, Q4_0, Q4_1, Q4_2⟩
 refine t_aconst_null 1 X0.here hx hby d13 rfl ?_
 refine t_astoreN (pc' := 2) (L' := #[vr o0, .val .null]) X0.here hx hby d14 rfl rfl rfl ?_
 refine t_aloadN 3 X0.here hx hby d15 rfl rfl rfl ?_
 refine st1 _ ?_
 refine t_iconst 7 (r := 1) X1.here hx hby d30 (by decide) rfl ?_
 refine t_icmpNo 10 X1.here hx hby d31 (by decide) rfl ?_
 refine t_aloadN 11 X1.here hx hby d32 rfl rfl rfl ?_
 refine t_iconst 12 (r := 0) X1.here hx hby d33 (by decide) rfl ?_
 refine st2 _ ?_
 refine own_lswH (pc := 15) (pc' := 78) X2 hx (hb hby d62) (by decide) (kl := (77 : Int32)) hk (a := 77) (off := 63) (by decide) (by decide) (by decide) ?_
 refine st3 _ ?_
 refine t_goto (pc := 81) 91 X3.here hx hby d94 (by decide) (by decide) ?_
 refine t_astoreN (pc' := 92) (L' := #[vr o0, vr st_MONTHS]) X3.here hx hby d65 rfl rfl rfl ?_
 refine t_aloadN 93 X3.here hx hby d66 rfl rfl rfl ?_
 refine st4 _ ?_
 jvm_step X4.here [X4.here.top, hx, (hb hby d81), X4.method', hret, Value.isRef, FieldType.isReference]
 first | (intro acts; rw [hr _ acts rfl rfl rfl]) | rw [hr _ _ rfl rfl rfl]
 exact Steps.refl _
theorem r_un_MONTHS_109 (l : Launch) (Z : State) (a0 : Array Value) (hw : HW Z a0) (ws : List Jvm.Cond) (o0 v0 : Addr) (x0 cs : Int32) (fm : Value) (st_MONTHS : Addr) (k_v0 : ClassId) (h0 : Heap) (n0 : Nat) (Z0 : n0 ≤ h0.size) (hk : (x0 &&& (255 : Int32)) = (109 : Int32)) (hcs : ¬ (cs = (0 : Int32))) (hfm : fm.isRef = true) (E_o0 : Ex0 Z h0 o0) (F_o0_value : Fd0 Z h0 o0 (.ref v0)) (V_v0 : Arv Z h0 v0 k_v0 .byte 1 [(.int x0)] z0) (sCS : SCS Z cs) (F_o0_coder : Fd1 Z h0 o0 z0) (O0 : Old Z n0 h0) (S_SIOOBE_FORMATTER : Sa0 Z fm) (S_MONTHS : Sa2 Z (.ref st_MONTHS)) :
    MF l Z y9_unitOf b2_ 2 (some (.object "java/util/Optional")) ws ⟨4, 1, 1, 53⟩ #[(.ref o0)] h0 (Q_r_un_MONTHS Z o0 v0 x0 cs fm st_MONTHS k_v0 h0 n0) := by
 refine own_body (plainFor_of_name pn_PaymentFrequency668) (ef_6 o0) (by decide) (by decide) ?_
 intro p e s m below meth c s₁ hx hby hml hown hnm hret hZ hh e0 X0
 have N0 := Fr.nil n0
 obtain ⟨_, T1, L1, X1, hQ1, st1⟩ := own_virtual X0 hx hZ hown (w31 hw) (w32 hw) (nfS hZ (w34 hw)) (w34 hw) (w33 hw) (w7 hw) (w35 hw) (by decide) (r1_length l Z a0 hw [] o0 v0 x0 k_v0 cs h0 n0 Z0 F_o0_value V_v0 E_o0 sCS F_o0_coder O0 hcs) e0 E_o0 (W := 0) (by decide) (g := (mkF m 3 #[vr o0, .val .null] [(.ref o0)])) rfl hml.symm (argsL := []) (rest := []) (lenOf pd_2 rfl) rfl rfl (own_wr rfl rfl) (hb hby d16)
 obtain ⟨rfl, N1q, e1⟩ := hQ1
 have N1 := Fr.app N0 N1q
 obtain ⟨_, T2, L2, X2, hQ2, st2⟩ := own_virtual X1 hx hZ hown (w101 hw) (w102 hw) (nfS hZ (w104 hw)) (w104 hw) (w103 hw) (w7 hw) (w105 hw) (by decide) (r3_charAt l Z a0 hw [] o0 cs v0 x0 k_v0 fm h0 n0 Z0 E_o0 sCS F_o0_coder O0 hcs F_o0_value V_v0 S_SIOOBE_FORMATTER hfm) e1 E_o0 (W := 0) (by decide) (g := (mkF m 12 #[vr o0, .val .null] [z0, (.ref o0)])) rfl hml.symm (argsL := [z0]) (rest := []) (lenOf pd_6 rfl) rfl rfl (own_wr rfl rfl) (hb hby d34)
 obtain ⟨rfl, N2q, e2⟩ := hQ2
 have N2 := Fr.app N1 N2q
 obtain ⟨T3, X3, e3, st3⟩ := getS2 X2 hx hZ hown (host := "") (Or.inl (w152 hw)) Via.refl e2 (Sta.ext O0.2 S_MONTHS) (g := (mkF m 78 #[vr o0, .val .null] [])) rfl (hb hby d93)
 obtain ⟨_, T4, L4, X4, hQ4, st4⟩ := own_static X3 hx hZ hown (w42 hw) (w43 hw) (w44 hw) (w45 hw) (by decide) (r6_ofNullable l Z a0 hw [] st_MONTHS h0 n0 Z0) e3 (W := 0) (by decide) (g := (mkF m 93 #[vr o0, vr st_MONTHS] [(.ref st_MONTHS)])) rfl hml.symm (argsL := [(.ref st_MONTHS)]) (rest := []) (lenOf pd_8 rfl) rfl rfl (own_wr rfl rfl) (hb hby d67)
 obtain ⟨b1_4, rfl, N4q, K4, Q4_0, Q4_1, Q4_2⟩ := hQ4
 have N4 := Fr.app N2 N4q
 have C0 := (KL.refl h0 []).trans K4 na0
 refine ⟨T4, _, some (.ref b1_4), X4, (fun h => by cases h <;> rfl), ?_, fun fs hr => ?_⟩
 · show Q_r_un_MONTHS Z o0 v0 x0 cs fm st_MONTHS k_v0 h0 n0 _ T4.heap _
   exact ⟨b1_4, rfl, N4, C0, Q4_0, Q4_1, Q4_2⟩
 refine t_aconst_null 1 X0.here hx hby d13 rfl ?_
 refine t_astoreN (pc' := 2) (L' := #[vr o0, .val .null]) X0.here hx hby d14 rfl rfl rfl ?_
 refine t_aloadN 3 X0.here hx hby d15 rfl rfl rfl ?_
 refine st1 _ ?_
 refine t_iconst 7 (r := 1) X1.here hx hby d30 (by decide) rfl ?_
 refine t_icmpNo 10 X1.here hx hby d31 (by decide) rfl ?_
 refine t_aloadN 11 X1.here hx hby d32 rfl rfl rfl ?_
 refine t_iconst 12 (r := 0) X1.here hx hby d33 (by decide) rfl ?_
 refine st2 _ ?_
 refine own_lswH (pc := 15) (pc' := 78) X2 hx (hb hby d62) (by decide) (kl := (109 : Int32)) hk (a := 109) (off := 63) (by decide) (by decide) (by decide) ?_
 refine st3 _ ?_
 refine t_goto (pc := 81) 91 X3.here hx hby d94 (by decide) (by decide) ?_
 refine t_astoreN (pc' := 92) (L' := #[vr o0, vr st_MONTHS]) X3.here hx hby d65 rfl rfl rfl ?_
 refine t_aloadN 93 X3.here hx hby d66 rfl rfl rfl ?_
 refine st4 _ ?_
 jvm_step X4.here [X4.here.top, hx, (hb hby d81), X4.method', hret, Value.isRef, FieldType.isReference]
 first | (intro acts; rw [hr _ acts rfl rfl rfl]) | rw [hr _ _ rfl rfl rfl]
 exact Steps.refl _
theorem r_un_MONTHS (l : Launch) (Z : State) (a0 : Array Value) (hw : HW Z a0) (ws : List Jvm.Cond) (o0 v0 : Addr) (x0 cs : Int32) (fm : Value) (st_MONTHS : Addr) (k_v0 : ClassId) (h0 : Heap) (n0 : Nat) (Z0 : n0 ≤ h0.size) (hk : (x0 &&& (255 : Int32)) = (77 : Int32) ∨ (x0 &&& (255 : Int32)) = (109 : Int32)) (hcs : ¬ (cs = (0 : Int32))) (hfm : fm.isRef = true) (E_o0 : Ex0 Z h0 o0) (F_o0_value : Fd0 Z h0 o0 (.ref v0)) (V_v0 : Arv Z h0 v0 k_v0 .byte 1 [(.int x0)] z0) (sCS : SCS Z cs) (F_o0_coder : Fd1 Z h0 o0 z0) (O0 : Old Z n0 h0) (S_SIOOBE_FORMATTER : Sa0 Z fm) (S_MONTHS : Sa2 Z (.ref st_MONTHS)) :
    MF l Z y9_unitOf b2_ 2 (some (.object "java/util/Optional")) ws ⟨4, 1, 1, 53⟩ #[(.ref o0)] h0 (Q_r_un_MONTHS Z o0 v0 x0 cs fm st_MONTHS k_v0 h0 n0) := by
  rcases hk with hk | hk
  · exact r_un_MONTHS_77 l Z a0 hw ws o0 v0 x0 cs fm st_MONTHS k_v0 h0 n0 Z0 hk hcs hfm E_o0 F_o0_value V_v0 sCS F_o0_coder O0 S_SIOOBE_FORMATTER S_MONTHS
  · exact r_un_MONTHS_109 l Z a0 hw ws o0 v0 x0 cs fm st_MONTHS k_v0 h0 n0 Z0 hk hcs hfm E_o0 F_o0_value V_v0 sCS F_o0_coder O0 S_SIOOBE_FORMATTER S_MONTHS
theorem d95 : decode b10_ 23 = .ok (.iload_n 1, 1) := by decide +kernel
theorem d96 : decode b10_ 24 = .ok (.bipush 77, 2) := by decide +kernel
theorem d97 : decode b10_ 26 = .ok (.if_icmp .eq 9, 3) := by decide +kernel
theorem d98 : decode b10_ 35 = .ok (.getstatic 50, 3) := by decide +kernel
def w153 (hw : HW Z a0) := ow 153 hw rfl
theorem d99 : decode b10_ 38 = .ok (.areturn, 1) := by decide +kernel
def Q_r_ex_MONTHS (Z : State) (p1 : Int32) (st_MONTHS : Addr) (h0 : Heap) (n0 : Nat) (v : Option Value) (h : Heap) (L : List Loc) : Prop := v = some (.ref st_MONTHS) ∧ Fr n0 L ∧ h = h0
theorem r_ex_MONTHS_77 (l : Launch) (Z : State) (a0 : Array Value) (hw : HW Z a0) (ws : List Jvm.Cond) (p1 : Int32) (st_MONTHS : Addr) (h0 : Heap) (n0 : Nat) (Z0 : n0 ≤ h0.size) (hk : p1 = (77 : Int32)) (S_MONTHS : Sa2 Z (.ref st_MONTHS)) (O0 : Old Z n0 h0) :
    MF l Z y10_expected b10_ 2 (some (.object "java/time/temporal/ChronoUnit")) ws ⟨0, 0, 0, 0⟩ #[(.int 1), (.int p1)] h0 (Q_r_ex_MONTHS Z p1 st_MONTHS h0 n0) := by
 refine own_body (plainFor_of_name pn_PaymentFrequencyUnitOfPinLaw855) (ef_2 (1 : Int32) p1) (by decide) (by decide) ?_
 intro p e s m below meth c s₁ hx hby hml hown hnm hret hZ hh e0 X0
 have N0 := Fr.nil n0
 obtain ⟨T1, X1, e1, st1⟩ := getS2 X0 hx hZ hown (host := "") (Or.inl (w153 hw)) Via.refl e0 (Sta.ext O0.2 S_MONTHS) (g := (mkF m 35 #[vi 1, vi p1] [])) rfl (hb hby d98)
 refine ⟨T1, _, some (.ref st_MONTHS), X1, (fun h => by cases h <;> rfl), ?_, fun fs hr => ?_⟩
 · show Q_r_ex_MONTHS Z p1 st_MONTHS h0 n0 _ T1.heap _
   rw [e1]
   exact ⟨rfl, N0, rfl⟩
 refine t_iloadN 1 X0.here hx hby d82 rfl rfl ?_
 refine t_iconst 2 (r := 1) X0.here hx hby d83 (by decide) rfl ?_
 refine t_icmpYes (pc := 2) 7 X0.here hx hby d84 (by decide) (by decide) (by decide) ?_
 refine t_iloadN 8 X0.here hx hby d85 rfl rfl ?_
 refine t_bipush 10 (r := 68) X0.here hx hby d86 (by decide) rfl ?_
 refine t_icmpNo 13 X0.here hx hby d87 (feq (own_nek hk (by decide))).1 rfl ?_
 refine t_iloadN 14 X0.here hx hby d90 rfl rfl ?_
 refine t_bipush 16 (r := 100) X0.here hx hby d91 (by decide) rfl ?_
 refine t_icmpYes (pc := 16) 23 X0.here hx hby d92 (feq (own_nek hk (by decide))).2 (by decide) (by decide) ?_
 refine t_iloadN 24 X0.here hx hby d95 rfl rfl ?_
 refine t_bipush 26 (r := 77) X0.here hx hby d96 (by decide) rfl ?_
 refine t_icmpYes (pc := 26) 35 X0.here hx hby d97 (teq hk).1 (by decide) (by decide) ?_
 refine st1 _ ?_
 jvm_step X1.here [X1.here.top, hx, (hb hby d99), X1.method', hret, Value.isRef, FieldType.isReference]
 first | (intro acts; rw [hr _ acts rfl rfl rfl]) | rw [hr _ _ rfl rfl rfl]
 exact Steps.refl _
theorem d100 : decode b10_ 29 = .ok (.iload_n 1, 1) := by decide +kernel
theorem d101 : decode b10_ 30 = .ok (.bipush 109, 2) := by decide +kernel
theorem d102 : decode b10_ 32 = .ok (.if_icmp .ne 7, 3) := by decide +kernel
theorem r_ex_MONTHS_109 (l : Launch) (Z : State) (a0 : Array Value) (hw : HW Z a0) (ws : List Jvm.Cond) (p1 : Int32) (st_MONTHS : Addr) (h0 : Heap) (n0 : Nat) (Z0 : n0 ≤ h0.size) (hk : p1 = (109 : Int32)) (S_MONTHS : Sa2 Z (.ref st_MONTHS)) (O0 : Old Z n0 h0) :
    MF l Z y10_expected b10_ 2 (some (.object "java/time/temporal/ChronoUnit")) ws ⟨0, 0, 0, 0⟩ #[(.int 1), (.int p1)] h0 (Q_r_ex_MONTHS Z p1 st_MONTHS h0 n0) := by
 refine own_body (plainFor_of_name pn_PaymentFrequencyUnitOfPinLaw855) (ef_2 (1 : Int32) p1) (by decide) (by decide) ?_
 intro p e s m below meth c s₁ hx hby hml hown hnm hret hZ hh e0 X0
 have N0 := Fr.nil n0
 obtain ⟨T1, X1, e1, st1⟩ := getS2 X0 hx hZ hown (host := "") (Or.inl (w153 hw)) Via.refl e0 (Sta.ext O0.2 S_MONTHS) (g := (mkF m 35 #[vi 1, vi p1] [])) rfl (hb hby d98)
 refine ⟨T1, _, some (.ref st_MONTHS), X1, (fun h => by cases h <;> rfl), ?_, fun fs hr => ?_⟩
 · show Q_r_ex_MONTHS Z p1 st_MONTHS h0 n0 _ T1.heap _
   rw [e1]
   exact ⟨rfl, N0, rfl⟩
 refine t_iloadN 1 X0.here hx hby d82 rfl rfl ?_
 refine t_iconst 2 (r := 1) X0.here hx hby d83 (by decide) rfl ?_
 refine t_icmpYes (pc := 2) 7 X0.here hx hby d84 (by decide) (by decide) (by decide) ?_
 refine t_iloadN 8 X0.here hx hby d85 rfl rfl ?_
 refine t_bipush 10 (r := 68) X0.here hx hby d86 (by decide) rfl ?_
 refine t_icmpNo 13 X0.here hx hby d87 (feq (own_nek hk (by decide))).1 rfl ?_
 refine t_iloadN 14 X0.here hx hby d90 rfl rfl ?_
 refine t_bipush 16 (r := 100) X0.here hx hby d91 (by decide) rfl ?_
 refine t_icmpYes (pc := 16) 23 X0.here hx hby d92 (feq (own_nek hk (by decide))).2 (by decide) (by decide) ?_
 refine t_iloadN 24 X0.here hx hby d95 rfl rfl ?_
 refine t_bipush 26 (r := 77) X0.here hx hby d96 (by decide) rfl ?_
 refine t_icmpNo 29 X0.here hx hby d97 (feq (own_nek hk (by decide))).1 rfl ?_
 refine t_iloadN 30 X0.here hx hby d100 rfl rfl ?_
 refine t_bipush 32 (r := 109) X0.here hx hby d101 (by decide) rfl ?_
 refine t_icmpNo 35 X0.here hx hby d102 (teq hk).2 rfl ?_
 refine st1 _ ?_
 jvm_step X1.here [X1.here.top, hx, (hb hby d99), X1.method', hret, Value.isRef, FieldType.isReference]
 first | (intro acts; rw [hr _ acts rfl rfl rfl]) | rw [hr _ _ rfl rfl rfl]
 exact Steps.refl _
theorem r_ex_MONTHS (l : Launch) (Z : State) (a0 : Array Value) (hw : HW Z a0) (ws : List Jvm.Cond) (p1 : Int32) (st_MONTHS : Addr) (h0 : Heap) (n0 : Nat) (Z0 : n0 ≤ h0.size) (hk : p1 = (77 : Int32) ∨ p1 = (109 : Int32)) (S_MONTHS : Sa2 Z (.ref st_MONTHS)) (O0 : Old Z n0 h0) :
    MF l Z y10_expected b10_ 2 (some (.object "java/time/temporal/ChronoUnit")) ws ⟨0, 0, 0, 0⟩ #[(.int 1), (.int p1)] h0 (Q_r_ex_MONTHS Z p1 st_MONTHS h0 n0) := by
  rcases hk with hk | hk
  · exact r_ex_MONTHS_77 l Z a0 hw ws p1 st_MONTHS h0 n0 Z0 hk S_MONTHS O0
  · exact r_ex_MONTHS_109 l Z a0 hw ws p1 st_MONTHS h0 n0 Z0 hk S_MONTHS O0
theorem d103 : decode b2_ 84 = .ok (.getstatic 25, 3) := by decide +kernel
def w135 (hw : HW Z a0) := ow 135 hw rfl
theorem d104 : decode b2_ 87 = .ok (.goto 4, 3) := by decide +kernel
def Q_r_un_YEARS (Z : State) (o0 v0 : Addr) (x0 cs : Int32) (fm : Value) (st_YEARS : Addr) (k_v0 : ClassId) (h0 : Heap) (n0 : Nat) (v : Option Value) (h : Heap) (L : List Loc) : Prop := ∃ b1_4 : Addr, v = some (.ref b1_4) ∧ Fr n0 L ∧ KL h0 h [] ∧ h0.size ≤ b1_4 ∧ Ex1 Z h b1_4 ∧ Fd2 Z h b1_4 (.ref st_YEARS)
theorem r_un_YEARS_89 (l : Launch) (Z : State) (a0 : Array Value) (hw : HW Z a0) (ws : List Jvm.Cond) (o0 v0 : Addr) (x0 cs : Int32) (fm : Value) (st_YEARS : Addr) (k_v0 : ClassId) (h0 : Heap) (n0 : Nat) (Z0 : n0 ≤ h0.size) (hk : (x0 &&& (255 : Int32)) = (89 : Int32)) (hcs : ¬ (cs = (0 : Int32))) (hfm : fm.isRef = true) (E_o0 : Ex0 Z h0 o0) (F_o0_value : Fd0 Z h0 o0 (.ref v0)) (V_v0 : Arv Z h0 v0 k_v0 .byte 1 [(.int x0)] z0) (sCS : SCS Z cs) (F_o0_coder : Fd1 Z h0 o0 z0) (O0 : Old Z n0 h0) (S_SIOOBE_FORMATTER : Sa0 Z fm) (S_YEARS : Sa3 Z (.ref st_YEARS)) :
    MF l Z y9_unitOf b2_ 2 (some (.object "java/util/Optional")) ws ⟨4, 1, 1, 53⟩ #[(.ref o0)] h0 (Q_r_un_YEARS Z o0 v0 x0 cs fm st_YEARS k_v0 h0 n0) := by
 refine own_body (plainFor_of_name pn_PaymentFrequency668) (ef_6 o0) (by decide) (by decide) ?_
 intro p e s m below meth c s₁ hx hby hml hown hnm hret hZ hh e0 X0
 have N0 := Fr.nil n0
 obtain ⟨_, T1, L1, X1, hQ1, st1⟩ := own_virtual X0 hx hZ hown (w31 hw) (w32 hw) (nfS hZ (w34 hw)) (w34 hw) (w33 hw) (w7 hw) (w35 hw) (by decide) (r1_length l Z a0 hw [] o0 v0 x0 k_v0 cs h0 n0 Z0 F_o0_value V_v0 E_o0 sCS F_o0_coder O0 hcs) e0 E_o0 (W := 0) (by decide) (g := (mkF m 3 #[vr o0, .val .null] [(.ref o0)])) rfl hml.symm (argsL := []) (rest := []) (lenOf pd_2 rfl) rfl rfl (own_wr rfl rfl) (hb hby d16)
 obtain ⟨rfl, N1q, e1⟩ := hQ1
 have N1 := Fr.app N0 N1q
 obtain ⟨_, T2, L2, X2, hQ2, st2⟩ := own_virtual X1 hx hZ hown (w101 hw) (w102 hw) (nfS hZ (w104 hw)) (w104 hw) (w103 hw) (w7 hw) (w105 hw) (by decide) (r3_charAt l Z a0 hw [] o0 cs v0 x0 k_v0 fm h0 n0 Z0 E_o0 sCS F_o0_coder O0 hcs F_o0_value V_v0 S_SIOOBE_FORMATTER hfm) e1 E_o0 (W := 0) (by decide) (g := (mkF m 12 #[vr o0, .val .null] [z0, (.ref o0)])) rfl hml.symm (argsL := [z0]) (rest := []) (lenOf pd_6 rfl) rfl rfl (own_wr rfl rfl) (hb hby d34)
 obtain ⟨rfl, N2q, e2⟩ := hQ2
 have N2 := Fr.app N1 N2q
 obtain ⟨T3, X3, e3, st3⟩ := getS2 X2 hx hZ hown (host := "") (Or.inl (w135 hw)) Via.refl e2 (Sta.ext O0.2 S_YEARS) (g := (mkF m 84 #[vr o0, .val .null] [])) rfl (hb hby d103)
 obtain ⟨_, T4, L4, X4, hQ4, st4⟩ := own_static X3 hx hZ hown (w42 hw) (w43 hw) (w44 hw) (w45 hw) (by decide) (r6_ofNullable l Z a0 hw [] st_YEARS h0 n0 Z0) e3 (W := 0) (by decide) (g := (mkF m 93 #[vr o0, vr st_YEARS] [(.ref st_YEARS)])) rfl hml.symm (argsL := [(.ref st_YEARS)]) (rest := []) (lenOf pd_8 rfl) rfl rfl (own_wr rfl rfl) (hb hby d67)
 obtain ⟨b1_4, rfl, N4q, K4, Q4_0, Q4_1, Q4_2⟩ := hQ4
 have N4 := Fr.app N2 N4q
 have C0 := (KL.refl h0 []).trans K4 na0
 refine ⟨T4, _, some (.ref b1_4), X4, (fun h => by cases h <;> rfl), ?_, fun fs hr => ?_⟩
 · show Q_r_un_YEARS Z o0 v0 x0 cs fm st_YEARS k_v0 h0 n0 _ T4.heap _
   exact ⟨b1_4, rfl, N4, C0, Q4_0, Q4_1, Q4_2⟩
 refine t_aconst_null 1 X0.here hx hby d13 rfl ?_
 refine t_astoreN (pc' := 2) (L' := #[vr o0, .val .null]) X0.here hx hby d14 rfl rfl rfl ?_
 refine t_aloadN 3 X0.here hx hby d15 rfl rfl rfl ?_
 refine st1 _ ?_
 refine t_iconst 7 (r := 1) X1.here hx hby d30 (by decide) rfl ?_
 refine t_icmpNo 10 X1.here hx hby d31 (by decide) rfl ?_
 refine t_aloadN 11 X1.here hx hby d32 rfl rfl rfl ?_
 refine t_iconst 12 (r := 0) X1.here hx hby d33 (by decide) rfl ?_
 refine st2 _ ?_
 refine own_lswH (pc := 15) (pc' := 84) X2 hx (hb hby d62) (by decide) (kl := (89 : Int32)) hk (a := 89) (off := 69) (by decide) (by decide) (by decide) ?_
 refine st3 _ ?_
 refine t_goto (pc := 87) 91 X3.here hx hby d104 (by decide) (by decide) ?_
 refine t_astoreN (pc' := 92) (L' := #[vr o0, vr st_YEARS]) X3.here hx hby d65 rfl rfl rfl ?_
 refine t_aloadN 93 X3.here hx hby d66 rfl rfl rfl ?_
 refine st4 _ ?_
 jvm_step X4.here [X4.here.top, hx, (hb hby d81), X4.method', hret, Value.isRef, FieldType.isReference]
 first | (intro acts; rw [hr _ acts rfl rfl rfl]) | rw [hr _ _ rfl rfl rfl]
 exact Steps.refl _
theorem r_un_YEARS_121 (l : Launch) (Z : State) (a0 : Array Value) (hw : HW Z a0) (ws : List Jvm.Cond) (o0 v0 : Addr) (x0 cs : Int32) (fm : Value) (st_YEARS : Addr) (k_v0 : ClassId) (h0 : Heap) (n0 : Nat) (Z0 : n0 ≤ h0.size) (hk : (x0 &&& (255 : Int32)) = (121 : Int32)) (hcs : ¬ (cs = (0 : Int32))) (hfm : fm.isRef = true) (E_o0 : Ex0 Z h0 o0) (F_o0_value : Fd0 Z h0 o0 (.ref v0)) (V_v0 : Arv Z h0 v0 k_v0 .byte 1 [(.int x0)] z0) (sCS : SCS Z cs) (F_o0_coder : Fd1 Z h0 o0 z0) (O0 : Old Z n0 h0) (S_SIOOBE_FORMATTER : Sa0 Z fm) (S_YEARS : Sa3 Z (.ref st_YEARS)) :
    MF l Z y9_unitOf b2_ 2 (some (.object "java/util/Optional")) ws ⟨4, 1, 1, 53⟩ #[(.ref o0)] h0 (Q_r_un_YEARS Z o0 v0 x0 cs fm st_YEARS k_v0 h0 n0) := by
 refine own_body (plainFor_of_name pn_PaymentFrequency668) (ef_6 o0) (by decide) (by decide) ?_
 intro p e s m below meth c s₁ hx hby hml hown hnm hret hZ hh e0 X0
 have N0 := Fr.nil n0
 obtain ⟨_, T1, L1, X1, hQ1, st1⟩ := own_virtual X0 hx hZ hown (w31 hw) (w32 hw) (nfS hZ (w34 hw)) (w34 hw) (w33 hw) (w7 hw) (w35 hw) (by decide) (r1_length l Z a0 hw [] o0 v0 x0 k_v0 cs h0 n0 Z0 F_o0_value V_v0 E_o0 sCS F_o0_coder O0 hcs) e0 E_o0 (W := 0) (by decide) (g := (mkF m 3 #[vr o0, .val .null] [(.ref o0)])) rfl hml.symm (argsL := []) (rest := []) (lenOf pd_2 rfl) rfl rfl (own_wr rfl rfl) (hb hby d16)
 obtain ⟨rfl, N1q, e1⟩ := hQ1
 have N1 := Fr.app N0 N1q
 obtain ⟨_, T2, L2, X2, hQ2, st2⟩ := own_virtual X1 hx hZ hown (w101 hw) (w102 hw) (nfS hZ (w104 hw)) (w104 hw) (w103 hw) (w7 hw) (w105 hw) (by decide) (r3_charAt l Z a0 hw [] o0 cs v0 x0 k_v0 fm h0 n0 Z0 E_o0 sCS F_o0_coder O0 hcs F_o0_value V_v0 S_SIOOBE_FORMATTER hfm) e1 E_o0 (W := 0) (by decide) (g := (mkF m 12 #[vr o0, .val .null] [z0, (.ref o0)])) rfl hml.symm (argsL := [z0]) (rest := []) (lenOf pd_6 rfl) rfl rfl (own_wr rfl rfl) (hb hby d34)
 obtain ⟨rfl, N2q, e2⟩ := hQ2
 have N2 := Fr.app N1 N2q
 obtain ⟨T3, X3, e3, st3⟩ := getS2 X2 hx hZ hown (host := "") (Or.inl (w135 hw)) Via.refl e2 (Sta.ext O0.2 S_YEARS) (g := (mkF m 84 #[vr o0, .val .null] [])) rfl (hb hby d103)
 obtain ⟨_, T4, L4, X4, hQ4, st4⟩ := own_static X3 hx hZ hown (w42 hw) (w43 hw) (w44 hw) (w45 hw) (by decide) (r6_ofNullable l Z a0 hw [] st_YEARS h0 n0 Z0) e3 (W := 0) (by decide) (g := (mkF m 93 #[vr o0, vr st_YEARS] [(.ref st_YEARS)])) rfl hml.symm (argsL := [(.ref st_YEARS)]) (rest := []) (lenOf pd_8 rfl) rfl rfl (own_wr rfl rfl) (hb hby d67)
 obtain ⟨b1_4, rfl, N4q, K4, Q4_0, Q4_1, Q4_2⟩ := hQ4
 have N4 := Fr.app N2 N4q
 have C0 := (KL.refl h0 []).trans K4 na0
 refine ⟨T4, _, some (.ref b1_4), X4, (fun h => by cases h <;> rfl), ?_, fun fs hr => ?_⟩
 · show Q_r_un_YEARS Z o0 v0 x0 cs fm st_YEARS k_v0 h0 n0 _ T4.heap _
   exact ⟨b1_4, rfl, N4, C0, Q4_0, Q4_1, Q4_2⟩
 refine t_aconst_null 1 X0.here hx hby d13 rfl ?_
 refine t_astoreN (pc' := 2) (L' := #[vr o0, .val .null]) X0.here hx hby d14 rfl rfl rfl ?_
 refine t_aloadN 3 X0.here hx hby d15 rfl rfl rfl ?_
 refine st1 _ ?_
 refine t_iconst 7 (r := 1) X1.here hx hby d30 (by decide) rfl ?_
 refine t_icmpNo 10 X1.here hx hby d31 (by decide) rfl ?_
 refine t_aloadN 11 X1.here hx hby d32 rfl rfl rfl ?_
 refine t_iconst 12 (r := 0) X1.here hx hby d33 (by decide) rfl ?_
 refine st2 _ ?_
 refine own_lswH (pc := 15) (pc' := 84) X2 hx (hb hby d62) (by decide) (kl := (121 : Int32)) hk (a := 121) (off := 69) (by decide) (by decide) (by decide) ?_
 refine st3 _ ?_
 refine t_goto (pc := 87) 91 X3.here hx hby d104 (by decide) (by decide) ?_
 refine t_astoreN (pc' := 92) (L' := #[vr o0, vr st_YEARS]) X3.here hx hby d65 rfl rfl rfl ?_
 refine t_aloadN 93 X3.here hx hby d66 rfl rfl rfl ?_
 refine st4 _ ?_
 jvm_step X4.here [X4.here.top, hx, (hb hby d81), X4.method', hret, Value.isRef, FieldType.isReference]
 first | (intro acts; rw [hr _ acts rfl rfl rfl]) | rw [hr _ _ rfl rfl rfl]
 exact Steps.refl _
theorem r_un_YEARS (l : Launch) (Z : State) (a0 : Array Value) (hw : HW Z a0) (ws : List Jvm.Cond) (o0 v0 : Addr) (x0 cs : Int32) (fm : Value) (st_YEARS : Addr) (k_v0 : ClassId) (h0 : Heap) (n0 : Nat) (Z0 : n0 ≤ h0.size) (hk : (x0 &&& (255 : Int32)) = (89 : Int32) ∨ (x0 &&& (255 : Int32)) = (121 : Int32)) (hcs : ¬ (cs = (0 : Int32))) (hfm : fm.isRef = true) (E_o0 : Ex0 Z h0 o0) (F_o0_value : Fd0 Z h0 o0 (.ref v0)) (V_v0 : Arv Z h0 v0 k_v0 .byte 1 [(.int x0)] z0) (sCS : SCS Z cs) (F_o0_coder : Fd1 Z h0 o0 z0) (O0 : Old Z n0 h0) (S_SIOOBE_FORMATTER : Sa0 Z fm) (S_YEARS : Sa3 Z (.ref st_YEARS)) :
    MF l Z y9_unitOf b2_ 2 (some (.object "java/util/Optional")) ws ⟨4, 1, 1, 53⟩ #[(.ref o0)] h0 (Q_r_un_YEARS Z o0 v0 x0 cs fm st_YEARS k_v0 h0 n0) := by
  rcases hk with hk | hk
  · exact r_un_YEARS_89 l Z a0 hw ws o0 v0 x0 cs fm st_YEARS k_v0 h0 n0 Z0 hk hcs hfm E_o0 F_o0_value V_v0 sCS F_o0_coder O0 S_SIOOBE_FORMATTER S_YEARS
  · exact r_un_YEARS_121 l Z a0 hw ws o0 v0 x0 cs fm st_YEARS k_v0 h0 n0 Z0 hk hcs hfm E_o0 F_o0_value V_v0 sCS F_o0_coder O0 S_SIOOBE_FORMATTER S_YEARS
theorem d105 : decode b10_ 39 = .ok (.iload_n 1, 1) := by decide +kernel
theorem d106 : decode b10_ 40 = .ok (.bipush 89, 2) := by decide +kernel
theorem d107 : decode b10_ 42 = .ok (.if_icmp .eq 9, 3) := by decide +kernel
theorem d108 : decode b10_ 51 = .ok (.getstatic 53, 3) := by decide +kernel
def w144 (hw : HW Z a0) := ow 144 hw rfl
theorem d109 : decode b10_ 54 = .ok (.areturn, 1) := by decide +kernel
def Q_r_ex_YEARS (Z : State) (p1 : Int32) (st_YEARS : Addr) (h0 : Heap) (n0 : Nat) (v : Option Value) (h : Heap) (L : List Loc) : Prop := v = some (.ref st_YEARS) ∧ Fr n0 L ∧ h = h0
theorem r_ex_YEARS_89 (l : Launch) (Z : State) (a0 : Array Value) (hw : HW Z a0) (ws : List Jvm.Cond) (p1 : Int32) (st_YEARS : Addr) (h0 : Heap) (n0 : Nat) (Z0 : n0 ≤ h0.size) (hk : p1 = (89 : Int32)) (S_YEARS : Sa3 Z (.ref st_YEARS)) (O0 : Old Z n0 h0) :
    MF l Z y10_expected b10_ 2 (some (.object "java/time/temporal/ChronoUnit")) ws ⟨0, 0, 0, 0⟩ #[(.int 1), (.int p1)] h0 (Q_r_ex_YEARS Z p1 st_YEARS h0 n0) := by
 refine own_body (plainFor_of_name pn_PaymentFrequencyUnitOfPinLaw855) (ef_2 (1 : Int32) p1) (by decide) (by decide) ?_
 intro p e s m below meth c s₁ hx hby hml hown hnm hret hZ hh e0 X0
 have N0 := Fr.nil n0
 obtain ⟨T1, X1, e1, st1⟩ := getS2 X0 hx hZ hown (host := "") (Or.inl (w144 hw)) Via.refl e0 (Sta.ext O0.2 S_YEARS) (g := (mkF m 51 #[vi 1, vi p1] [])) rfl (hb hby d108)
 refine ⟨T1, _, some (.ref st_YEARS), X1, (fun h => by cases h <;> rfl), ?_, fun fs hr => ?_⟩
 · show Q_r_ex_YEARS Z p1 st_YEARS h0 n0 _ T1.heap _
   rw [e1]
   exact ⟨rfl, N0, rfl⟩
 refine t_iloadN 1 X0.here hx hby d82 rfl rfl ?_
 refine t_iconst 2 (r := 1) X0.here hx hby d83 (by decide) rfl ?_
 refine t_icmpYes (pc := 2) 7 X0.here hx hby d84 (by decide) (by decide) (by decide) ?_
 refine t_iloadN 8 X0.here hx hby d85 rfl rfl ?_
 refine t_bipush 10 (r := 68) X0.here hx hby d86 (by decide) rfl ?_
 refine t_icmpNo 13 X0.here hx hby d87 (feq (own_nek hk (by decide))).1 rfl ?_
 refine t_iloadN 14 X0.here hx hby d90 rfl rfl ?_
 refine t_bipush 16 (r := 100) X0.here hx hby d91 (by decide) rfl ?_
 refine t_icmpYes (pc := 16) 23 X0.here hx hby d92 (feq (own_nek hk (by decide))).2 (by decide) (by decide) ?_
 refine t_iloadN 24 X0.here hx hby d95 rfl rfl ?_
 refine t_bipush 26 (r := 77) X0.here hx hby d96 (by decide) rfl ?_
 refine t_icmpNo 29 X0.here hx hby d97 (feq (own_nek hk (by decide))).1 rfl ?_
 refine t_iloadN 30 X0.here hx hby d100 rfl rfl ?_
 refine t_bipush 32 (r := 109) X0.here hx hby d101 (by decide) rfl ?_
 refine t_icmpYes (pc := 32) 39 X0.here hx hby d102 (feq (own_nek hk (by decide))).2 (by decide) (by decide) ?_
 refine t_iloadN 40 X0.here hx hby d105 rfl rfl ?_
 refine t_bipush 42 (r := 89) X0.here hx hby d106 (by decide) rfl ?_
 refine t_icmpYes (pc := 42) 51 X0.here hx hby d107 (teq hk).1 (by decide) (by decide) ?_
 refine st1 _ ?_
 jvm_step X1.here [X1.here.top, hx, (hb hby d109), X1.method', hret, Value.isRef, FieldType.isReference]
 first | (intro acts; rw [hr _ acts rfl rfl rfl]) | rw [hr _ _ rfl rfl rfl]
 exact Steps.refl _
theorem d110 : decode b10_ 45 = .ok (.iload_n 1, 1) := by decide +kernel
theorem d111 : decode b10_ 46 = .ok (.bipush 121, 2) := by decide +kernel
theorem d112 : decode b10_ 48 = .ok (.if_icmp .ne 7, 3) := by decide +kernel
theorem r_ex_YEARS_121 (l : Launch) (Z : State) (a0 : Array Value) (hw : HW Z a0) (ws : List Jvm.Cond) (p1 : Int32) (st_YEARS : Addr) (h0 : Heap) (n0 : Nat) (Z0 : n0 ≤ h0.size) (hk : p1 = (121 : Int32)) (S_YEARS : Sa3 Z (.ref st_YEARS)) (O0 : Old Z n0 h0) :
    MF l Z y10_expected b10_ 2 (some (.object "java/time/temporal/ChronoUnit")) ws ⟨0, 0, 0, 0⟩ #[(.int 1), (.int p1)] h0 (Q_r_ex_YEARS Z p1 st_YEARS h0 n0) := by
 refine own_body (plainFor_of_name pn_PaymentFrequencyUnitOfPinLaw855) (ef_2 (1 : Int32) p1) (by decide) (by decide) ?_
 intro p e s m below meth c s₁ hx hby hml hown hnm hret hZ hh e0 X0
 have N0 := Fr.nil n0
 obtain ⟨T1, X1, e1, st1⟩ := getS2 X0 hx hZ hown (host := "") (Or.inl (w144 hw)) Via.refl e0 (Sta.ext O0.2 S_YEARS) (g := (mkF m 51 #[vi 1, vi p1] [])) rfl (hb hby d108)
 refine ⟨T1, _, some (.ref st_YEARS), X1, (fun h => by cases h <;> rfl), ?_, fun fs hr => ?_⟩
 · show Q_r_ex_YEARS Z p1 st_YEARS h0 n0 _ T1.heap _
   rw [e1]
   exact ⟨rfl, N0, rfl⟩
 refine t_iloadN 1 X0.here hx hby d82 rfl rfl ?_
 refine t_iconst 2 (r := 1) X0.here hx hby d83 (by decide) rfl ?_
 refine t_icmpYes (pc := 2) 7 X0.here hx hby d84 (by decide) (by decide) (by decide) ?_
 refine t_iloadN 8 X0.here hx hby d85 rfl rfl ?_
 refine t_bipush 10 (r := 68) X0.here hx hby d86 (by decide) rfl ?_
 refine t_icmpNo 13 X0.here hx hby d87 (feq (own_nek hk (by decide))).1 rfl ?_
 refine t_iloadN 14 X0.here hx hby d90 rfl rfl ?_
 refine t_bipush 16 (r := 100) X0.here hx hby d91 (by decide) rfl ?_
 refine t_icmpYes (pc := 16) 23 X0.here hx hby d92 (feq (own_nek hk (by decide))).2 (by decide) (by decide) ?_
 refine t_iloadN 24 X0.here hx hby d95 rfl rfl ?_
 refine t_bipush 26 (r := 77) X0.here hx hby d96 (by decide) rfl ?_
 refine t_icmpNo 29 X0.here hx hby d97 (feq (own_nek hk (by decide))).1 rfl ?_
 refine t_iloadN 30 X0.here hx hby d100 rfl rfl ?_
 refine t_bipush 32 (r := 109) X0.here hx hby d101 (by decide) rfl ?_
 refine t_icmpYes (pc := 32) 39 X0.here hx hby d102 (feq (own_nek hk (by decide))).2 (by decide) (by decide) ?_
 refine t_iloadN 40 X0.here hx hby d105 rfl rfl ?_
 refine t_bipush 42 (r := 89) X0.here hx hby d106 (by decide) rfl ?_
 refine t_icmpNo 45 X0.here hx hby d107 (feq (own_nek hk (by decide))).1 rfl ?_
 refine t_iloadN 46 X0.here hx hby d110 rfl rfl ?_
 refine t_bipush 48 (r := 121) X0.here hx hby d111 (by decide) rfl ?_
 refine t_icmpNo 51 X0.here hx hby d112 (teq hk).2 rfl ?_
 refine st1 _ ?_
 jvm_step X1.here [X1.here.top, hx, (hb hby d109), X1.method', hret, Value.isRef, FieldType.isReference]
 first | (intro acts; rw [hr _ acts rfl rfl rfl]) | rw [hr _ _ rfl rfl rfl]
 exact Steps.refl _
theorem r_ex_YEARS (l : Launch) (Z : State) (a0 : Array Value) (hw : HW Z a0) (ws : List Jvm.Cond) (p1 : Int32) (st_YEARS : Addr) (h0 : Heap) (n0 : Nat) (Z0 : n0 ≤ h0.size) (hk : p1 = (89 : Int32) ∨ p1 = (121 : Int32)) (S_YEARS : Sa3 Z (.ref st_YEARS)) (O0 : Old Z n0 h0) :
    MF l Z y10_expected b10_ 2 (some (.object "java/time/temporal/ChronoUnit")) ws ⟨0, 0, 0, 0⟩ #[(.int 1), (.int p1)] h0 (Q_r_ex_YEARS Z p1 st_YEARS h0 n0) := by
  rcases hk with hk | hk
  · exact r_ex_YEARS_89 l Z a0 hw ws p1 st_YEARS h0 n0 Z0 hk S_YEARS O0
  · exact r_ex_YEARS_121 l Z a0 hw ws p1 st_YEARS h0 n0 Z0 hk S_YEARS O0
def w0 (hw : HW Z a0) := ow 0 hw rfl
def w1 (hw : HW Z a0) := ow 1 hw rfl
abbrev b11_ := method_3_code
theorem d113 : decode b11_ 0 = .ok (.iload_n 0, 1) := by decide +kernel
theorem d114 : decode b11_ 1 = .ok (.ifCond .ne 14, 3) := by decide +kernel
theorem d115 : decode b11_ 4 = .ok (.new 35, 3) := by decide +kernel
def w5 (hw : HW Z a0) := ow 5 hw rfl
def w6 (hw : HW Z a0) := ow 6 hw rfl
def w21 (hw : HW Z a0) := ow 21 hw rfl
def w22 (hw : HW Z a0) := ow 22 hw rfl
theorem d116 : decode b11_ 7 = .ok (.dup, 1) := by decide +kernel
theorem d117 : decode b11_ 8 = .ok (.iconst 0, 1) := by decide +kernel
theorem d118 : decode b11_ 9 = .ok (.newarray .char, 2) := by decide +kernel
def w8 (hw : HW Z a0) := ow 8 hw rfl
theorem d119 : decode b11_ 11 = .ok (.invokespecial 37, 3) := by decide +kernel
def w9 (hw : HW Z a0) := ow 9 hw rfl
abbrev b12_ := jdk_42_method_3_code
theorem d120 : decode b12_ 0 = .ok (.aload_n 0, 1) := by decide +kernel
theorem d121 : decode b12_ 1 = .ok (.aload_n 1, 1) := by decide +kernel
theorem d122 : decode b12_ 2 = .ok (.iconst 0, 1) := by decide +kernel
theorem d123 : decode b12_ 3 = .ok (.aload_n 1, 1) := by decide +kernel
theorem d124 : decode b12_ 4 = .ok (.arraylength, 1) := by decide +kernel
theorem d125 : decode b12_ 5 = .ok (.aconst_null, 1) := by decide +kernel
theorem d126 : decode b12_ 6 = .ok (.invokespecial 27, 3) := by decide +kernel
def w12 (hw : HW Z a0) := ow 12 hw rfl
abbrev b13_ := jdk_42_method_149_code
theorem d127 : decode b13_ 0 = .ok (.aload_n 0, 1) := by decide +kernel
theorem d128 : decode b13_ 1 = .ok (.invokespecial 1, 3) := by decide +kernel
def w16 (hw : HW Z a0) := ow 16 hw rfl
theorem d129 : decode b13_ 4 = .ok (.iload_n 3, 1) := by decide +kernel
theorem d130 : decode b13_ 5 = .ok (.ifCond .ne 22, 3) := by decide +kernel
theorem d131 : decode b13_ 8 = .ok (.aload_n 0, 1) := by decide +kernel
theorem d132 : decode b13_ 9 = .ok (.ldc 7, 2) := by decide +kernel
def w19 (hw : HW Z a0) := ow 19 hw rfl
theorem own_EW {Z : State} {a0 : Array Value} (hw : HW Z a0) : EW Z a0 consts_1 := (EW.cons (w19 hw) (by decide) (fun p hp => nomatch hp))
def w20 (hw : HW Z a0) := ow 20 hw rfl
def w23 (hw : HW Z a0) := ow 23 hw rfl
def w24 (hw : HW Z a0) := ow 24 hw rfl
theorem own_wS {Z : State} {a0 : Array Value} (hw : HW Z a0) : ∀ a ∈ Bundle.stringAtoms, a.before a0 Z = true := fun a ha => by
  simp only [Bundle.stringAtoms, List.mem_cons, List.not_mem_nil, or_false] at ha
  rcases ha with rfl | rfl | rfl | rfl | rfl | rfl | rfl
  all_goals first | exact (w6 hw) | exact (w7 hw) | exact (w20 hw) | exact (w21 hw) | exact (w22 hw) | exact (w23 hw) | exact (w24 hw)
theorem d133 : decode b13_ 11 = .ok (.getfield 9, 3) := by decide +kernel
theorem d134 : decode b13_ 14 = .ok (.putfield 9, 3) := by decide +kernel
theorem d135 : decode b13_ 17 = .ok (.aload_n 0, 1) := by decide +kernel
theorem d136 : decode b13_ 18 = .ok (.ldc 7, 2) := by decide +kernel
theorem d137 : decode b13_ 20 = .ok (.getfield 15, 3) := by decide +kernel
theorem d138 : decode b13_ 23 = .ok (.putfield 15, 3) := by decide +kernel
abbrev ft0_ : FieldType := .array .byte
theorem sn_0 (hw : HW Z a0) : sl1 Z ≠ sl0 Z := slot_ne (a0 := a0) (Or.inr (w22 hw)) (Or.inr (w21 hw)) (by decide) (t := .byte) (t' := ft0_) (by decide) (by decide)
theorem d139 : decode b13_ 26 = .ok (.return_, 1) := by decide +kernel
theorem sn_1 (hw : HW Z a0) : sl0 Z ≠ sl1 Z := slot_ne (a0 := a0) (Or.inr (w21 hw)) (Or.inr (w22 hw)) (by decide) (t := ft0_) (t' := .byte) (by decide) (by decide)
theorem ef_7 (x0 x1 : Addr) (x2 x3 : Int32) (m : MethodId) : entryFrame m #[(.ref x0), (.ref x1), (.int x2), (.int x3), .null] 6 = mkF m 0 #[.val (.ref x0), .val (.ref x1), .val (.int x2), .val (.int x3), .val .null, .unset] [] := by first | (simp [entryFrame, mkF, argsToLocals, Value.category]; done) | rfl
abbrev y11__init_ : MethodName := ⟨"java/lang/String", "<init>", "([CIILjava/lang/Void;)V"⟩
def WS_r10__init_ (Z : State) (o0 : Addr) : List (Addr × Nat) := [(o0, (sl0 Z)), (o0, (sl1 Z))]
def Q_r10__init_ (Z : State) (o0 o1 : Addr) (h0 : Heap) (n0 : Nat) (v : Option Value) (h : Heap) (L : List Loc) : Prop := ∃ b2 : Addr, ∃ kb2 : ClassId, v = none ∧ Fr n0 L ∧ KL h0 h (WS_r10__init_ Z o0) ∧ b2 < h.size ∧ Fd0 Z h o0 (.ref b2) ∧ Fd1 Z h o0 z0 ∧ Arv Z h b2 kb2 .byte 0 [] z0
theorem r10__init_ (l : Launch) (Z : State) (a0 : Array Value) (hw : HW Z a0) (ws : List Jvm.Cond) (o0 o1 : Addr) (h0 : Heap) (n0 : Nat) (Z0 : n0 ≤ h0.size) (F_o0_value : Fd0 Z h0 o0 .null) (E_o0 : Ex0 Z h0 o0) (g_o0 : n0 ≤ o0) (F_o0_coder : Fd1 Z h0 o0 z0) :
    OMH l Z consts_1 [o0] y11__init_ b13_ 6 none ws ⟨1, 4, 8, 12⟩ #[(.ref o0), (.ref o1), z0, z0, .null] h0 (Q_r10__init_ Z o0 o1 h0 n0) := by
 refine own_bodyH (k := 4) (n := 8) (own_EW hw) (plainFor_of_name pn_String564) (ef_7 o0 o1 (0 : Int32) (0 : Int32)) (by decide) (by decide) ?_
 intro p e s m below meth c s₁ hx hby hml hown hnm hret hZ e0 hS0 hk0 X0 hC0 hSF0
 have N0 := Fr.nil n0
 obtain ⟨T1, X1, e1, st1⟩ := initO X0 hx hZ hown (w16 hw) (w17 hw) (w18 hw) e0 (g := (mkF m 1 #[vr o0, vr o1, vi 0, vi 0, .val .null, .unset] [(.ref o0)])) rfl hml.symm rfl (hb hby d128) (by decide) (W := 0) (own_wr rfl rfl) (by decide)
 obtain ⟨c2, T2, h2, k2, b2, kb2, X2, e2, E2, hS2, hk2, hZ2, hown2, Ex2, Fc2, Fv2, Ar2, lta2, ltb2, hC2, Lt2, hne2, st2⟩ := ldcCH X1 hx hZ hown (w19 hw) (own_wS hw) e1 hS0 hk0 (own_EW hw) (by decide) (CHr.refl hC0).1 (vs := []) (z := 0) ⟨by decide, rfl⟩ (by decide) rfl (g := (mkF m 9 #[vr o0, vr o1, vi 0, vi 0, .val .null, .unset] [(.ref o0)])) rfl (hb hby d132) (n := 0) (by decide) (by decide) (by decide) (by decide)
 have K2 := KL.ofE E2
 have Ah1 := (CHr.refl hC0).trans hC2
 obtain ⟨T3, X3, e3, st3⟩ := getF X2 hx hZ2 hown2 (host := "") (Or.inl (w25 hw)) Via.refl e2 Fv2 (g := (mkF m 11 #[vr o0, vr o1, vi 0, vi 0, .val .null, .unset] [(.ref c2), (.ref o0)])) rfl rfl (hb hby d133)
 have f4 := (kFld K2 F_o0_value nw0)
 have f5 := (kExa K2 E_o0)
 obtain ⟨T6, h6, X6, e6, W6, st6⟩ := putF X3 hx hZ2 hown2 (host := "") (Or.inl (w25 hw)) Via.refl e3 f4 f5 (Or.inr ⟨(w21 hw), rfl, hnm⟩) (w6 hw) (ty := (.array .byte)) (by decide) rfl rfl (g := (mkF m 14 #[vr o0, vr o1, vi 0, vi 0, .val .null, .unset] [(.ref b2), (.ref o0)])) rfl rfl (hb hby d134)
 have K6 := KL.ofW W6
 have lt_o0 : o0 < h0.size := Fld.lt F_o0_value
 have Ck1 := own_chK K6 (naF (CHr.safe hC2 lt_o0 (hSF0 _ (List.mem_of_getElem? (i := 0) rfl))) na0) Ah1.1
 have Ah2 := Ah1.trans Ck1.1
 have Fw6 : Fd0 Z h6 o0 (.ref b2) := Fld.same W6 f4
 have N6 := Fr.snoc X6 N0 g_o0
 obtain ⟨c7, T7, h7, k7, b7, kb7, X7, e7, E7, hS7, hk7, hZ7, hown7, Ex7, Fc7, Fv7, Ar7, lta7, ltb7, hC7, Lt7, hne7, st7⟩ := ldcCH X6 hx hZ2 hown2 (w19 hw) (own_wS hw) e6 hS2 (Nat.le_trans hk2 K6.1) (own_EW hw) (by decide) Ah2.1 (vs := []) (z := 0) ⟨by decide, rfl⟩ (by decide) rfl (g := (mkF m 18 #[vr o0, vr o1, vi 0, vi 0, .val .null, .unset] [(.ref o0)])) rfl (hb hby d136) (n := 0) (by decide) (by decide) (by decide) (by decide)
 have K7 := KL.ofE E7
 have Ah3 := Ah2.trans hC7
 obtain ⟨T8, X8, e8, st8⟩ := getF X7 hx hZ7 hown7 (host := "") (Or.inl (w26 hw)) Via.refl e7 Fc7 (g := (mkF m 20 #[vr o0, vr o1, vi 0, vi 0, .val .null, .unset] [(.ref c7), (.ref o0)])) rfl rfl (hb hby d137)
 have f9 := (kFld K7 (kFld K6 (kFld K2 F_o0_coder nw0) (nwR (sn_0 hw) nw0)) nw0)
 have f10 := (kExa K7 (kExa K6 f5))
 obtain ⟨T11, h11, X11, e11, W11, st11⟩ := putF X8 hx hZ7 hown7 (host := "") (Or.inl (w26 hw)) Via.refl e8 f9 f10 (Or.inr ⟨(w22 hw), rfl, hnm⟩) (w6 hw) (ty := .byte) (by decide) (by decide) (by decide) (g := (mkF m 23 #[vr o0, vr o1, vi 0, vi 0, .val .null, .unset] [z0, (.ref o0)])) rfl rfl (hb hby d138)
 have K11 := KL.ofW W11
 have sz_0_2 := (Nat.le_trans K2.1 K6.1)
 have sf12 := (CHr.safe hC7 (Nat.lt_of_lt_of_le lt_o0 sz_0_2) (Ck1.2 _ (CHr.safe hC2 lt_o0 (hSF0 _ (List.mem_of_getElem? (i := 0) rfl)))))
 have Ck3 := own_chK K11 (naF sf12 na0) Ah3.1
 have Ah4 := Ah3.trans Ck3.1
 have Fw11 : Fd1 Z h11 o0 z0 := Fld.same W11 f9
 have N11 := Fr.snoc X11 N6 g_o0
 have C0 := (KL.refl h0 (WS_r10__init_ Z o0)).trans K2 na0
 have C1 := C0.trans K6 (naO (own_mi 0 rfl) na0)
 have C2 := C1.trans K7 na0
 have C3 := C2.trans K11 (naO (own_mi 1 rfl) na0)
 have sz_1_3 := (Nat.le_trans K6.1 K7.1)
 have sz_1_4 := (Nat.le_trans sz_1_3 K11.1)
 have f13 := (kFld K11 (kFld K7 Fw6 nw0) (nwR (sn_1 hw) nw0))
 have f14 := (kArv K11 (kArv K7 (kArv K6 Ar2 (naN (Ne.symm (own_arex Ar2 f5 (w6 hw))) na0)) na0) (naN (Ne.symm (own_arex Ar2 f5 (w6 hw))) na0))
 refine ⟨T11, _, none, _, _, X11, hS7, (by rw [e11]; exact (Nat.le_trans hk7 K11.1)), (fun h => by cases h <;> rfl), ?_, (by rw [e11]; exact Ah4), hZ7, fun fs hr => ?_⟩
 · show Q_r10__init_ Z o0 o1 h0 n0 _ T11.heap _
   rw [e11]
   exact ⟨b2, kb2, rfl, N11, C3, (Nat.lt_of_lt_of_le ltb2 sz_1_4), f13, Fw11, f14⟩
 refine t_aloadN 1 X0.here hx hby d127 rfl rfl rfl ?_
 refine st1 _ ?_
 refine t_iloadN 5 X1.here hx hby d129 rfl rfl ?_
 refine t_ifNo 8 X1.here hx hby d130 (by decide) rfl ?_
 refine t_aloadN 9 X1.here hx hby d131 rfl rfl rfl ?_
 refine st2 _ ?_
 refine st3 _ ?_
 refine st6 _ ?_
 refine t_aloadN 18 X6.here hx hby d135 rfl rfl rfl ?_
 refine st7 _ ?_
 refine st8 _ ?_
 refine st11 _ ?_
 exact X11.returnOut hx hret (hb hby d139) hr
def w15 (hw : HW Z a0) := ow 15 hw rfl
theorem pd_9 : parseMethodDescriptor "([CIILjava/lang/Void;)V" = some ⟨[(.array .char), .int, .int, (.object "java/lang/Void")], none⟩ := by decide +kernel
def w13 (hw : HW Z a0) := ow 13 hw rfl
theorem d140 : decode b12_ 9 = .ok (.return_, 1) := by decide +kernel
abbrev y12__init_ : MethodName := ⟨"java/lang/String", "<init>", "([C)V"⟩
def WS_r9__init_ (Z : State) (o0 : Addr) : List (Addr × Nat) := [(o0, (sl0 Z)), (o0, (sl1 Z))]
def Q_r9__init_ (Z : State) (o0 o1 : Addr) (k_o1 : ClassId) (h0 : Heap) (n0 : Nat) (v : Option Value) (h : Heap) (L : List Loc) : Prop := ∃ b2_1 : Addr, ∃ kb2_1 : ClassId, v = none ∧ Fr n0 L ∧ KL h0 h (WS_r9__init_ Z o0) ∧ b2_1 < h.size ∧ Fd0 Z h o0 (.ref b2_1) ∧ Fd1 Z h o0 z0 ∧ Arv Z h b2_1 kb2_1 .byte 0 [] z0
theorem r9__init_ (l : Launch) (Z : State) (a0 : Array Value) (hw : HW Z a0) (ws : List Jvm.Cond) (o0 o1 : Addr) (k_o1 : ClassId) (h0 : Heap) (n0 : Nat) (Z0 : n0 ≤ h0.size) (V_o1 : Arv Z h0 o1 k_o1 .char 0 [] z0) (F_o0_value : Fd0 Z h0 o0 .null) (E_o0 : Ex0 Z h0 o0) (F_o0_coder : Fd1 Z h0 o0 z0) (g_o0 : n0 ≤ o0) :
    OMH l Z consts_1 [o0] y12__init_ b12_ 2 none ws ⟨2, 4, 8, 29⟩ #[(.ref o0), (.ref o1)] h0 (Q_r9__init_ Z o0 o1 k_o1 h0 n0) := by
 refine own_bodyH (k := 4) (n := 8) (own_EW hw) (plainFor_of_name pn_String564) (ef_5 o0 o1) (by decide) (by decide) ?_
 intro p e s m below meth c s₁ hx hby hml hown hnm hret hZ e0 hS0 hk0 X0 hC0 hSF0
 have N0 := Fr.nil n0
 have lt_o0 : o0 < h0.size := Fld.lt F_o0_value
 obtain ⟨_, T1, L1, X1, hS1, hk1, hZ1, hown1, hQ1, hC1, st1⟩ := own_Hinit X0 hx hZ rfl hown (w12 hw) (w13 hw) (w7 hw) (w15 hw) (by decide) (r10__init_ l Z a0 hw [] o0 o1 h0 n0 Z0 F_o0_value E_o0 g_o0 F_o0_coder) e0 (W := 0) (by decide) (g := (mkF m 6 #[vr o0, vr o1] [.null, z0, z0, (.ref o1), (.ref o0)])) rfl hml.symm (argsL := [(.ref o1), z0, z0, .null]) (rest := []) (lenOf pd_9 rfl) rfl rfl (own_wr rfl rfl) (hb hby d126) hS0 hk0 (own_EW hw) (CHr.refl hC0).1 (sfS (hSF0 _ (List.mem_of_getElem? (i := 0) rfl)) lt_o0 sf0)
 obtain ⟨b2_1, kb2_1, rfl, N1q, K1, Q1_0, Q1_1, Q1_2, Q1_3⟩ := hQ1
 have N1 := Fr.app N0 N1q
 have Ah1 := (CHr.refl hC0).trans hC1
 have C0 := (KL.refl h0 (WS_r9__init_ Z o0)).trans K1 (naO (own_mi 0 rfl) (naO (own_mi 1 rfl) na0))
 refine ⟨T1, _, none, _, _, X1, hS1, (by rw [show T1.heap = T1.heap from rfl]; exact hk1), (fun h => by cases h <;> rfl), ?_, Ah1, hZ1, fun fs hr => ?_⟩
 · show Q_r9__init_ Z o0 o1 k_o1 h0 n0 _ T1.heap _
   exact ⟨b2_1, kb2_1, rfl, N1, C0, Q1_0, Q1_1, Q1_2, Q1_3⟩
 refine t_aloadN 1 X0.here hx hby d120 rfl rfl rfl ?_
 refine t_aloadN 2 X0.here hx hby d121 rfl rfl rfl ?_
 refine t_iconst 3 (r := 0) X0.here hx hby d122 (by decide) rfl ?_
 refine t_aloadN 4 X0.here hx hby d123 rfl rfl rfl ?_
 refine own_arlen (pc' := 5) X0 hx hZ e0 V_o1 (hb hby d124) rfl ?_
 refine t_aconst_null 6 X0.here hx hby d125 rfl ?_
 refine st1 _ ?_
 exact X1.returnOut hx hret (hb hby d140) hr
def w11 (hw : HW Z a0) := ow 11 hw rfl
theorem pd_10 : parseMethodDescriptor "([C)V" = some ⟨[(.array .char)], none⟩ := by decide +kernel
def w10 (hw : HW Z a0) := ow 10 hw rfl
theorem d141 : decode b11_ 14 = .ok (.areturn, 1) := by decide +kernel
theorem ef_8 (x0 x1 x2 x3 : Int32) (m : MethodId) : entryFrame m #[(.int x0), (.int x1), (.int x2), (.int x3)] 4 = mkF m 0 #[.val (.int x0), .val (.int x1), .val (.int x2), .val (.int x3)] [] := by first | (simp [entryFrame, mkF, argsToLocals, Value.category]; done) | rfl
abbrev y13_make : MethodName := ⟨"com/example/rivulet/rivulet/instrument/PaymentFrequencyUnitOfPinLaw", "make", "(ICCC)Ljava/lang/String;"⟩
def Q_r8_make (Z : State) (i_1 i_2 i_3 : Int32) (h0 : Heap) (n0 : Nat) (v : Option Value) (h : Heap) (L : List Loc) : Prop := ∃ b4 : Addr, ∃ b2_1_6 : Addr, ∃ kb2_1_6 : ClassId, v = some (.ref b4) ∧ Fr n0 L ∧ KL h0 h [] ∧ h0.size ≤ b4 ∧ b2_1_6 < h.size ∧ Ex0 Z h b4 ∧ Fd0 Z h b4 (.ref b2_1_6) ∧ Fd1 Z h b4 z0 ∧ Arv Z h b2_1_6 kb2_1_6 .byte 0 [] z0
theorem r8_make (l : Launch) (Z : State) (a0 : Array Value) (hw : HW Z a0) (ws : List Jvm.Cond) (i_1 i_2 i_3 : Int32) (h0 : Heap) (n0 : Nat) (Z0 : n0 ≤ h0.size) :
    OMH l Z consts_1 [] y13_make b11_ 4 (some (.object "java/lang/String")) ws ⟨3, 6, 12, 43⟩ #[z0, (.int i_1), (.int i_2), (.int i_3)] h0 (Q_r8_make Z i_1 i_2 i_3 h0 n0) := by
 refine own_bodyH (k := 6) (n := 12) (own_EW hw) (plainFor_of_name pn_PaymentFrequencyUnitOfPinLaw855) (ef_8 (0 : Int32) i_1 i_2 i_3) (by decide) (by decide) ?_
 intro p e s m below meth c s₁ hx hby hml hown hnm hret hZ e0 hS0 hk0 X0 hC0 hSF0
 have N0 := Fr.nil n0
 obtain ⟨T4, h4, X4, e4, E4, A4, D4, -, st4⟩ := newO X0 hx hZ hown (w5 hw) (w6 hw) (w7 hw) e0 (g := (mkF m 4 #[vi 0, vi i_1, vi i_2, vi i_3] [])) rfl (hb hby d115) (by decide) (by decide)
 obtain ⟨b4, g4⟩ : ∃ z, z = h0.size := ⟨_, rfl⟩
 rw [← g4] at A4 D4 st4
 have ge_b4 : h0.size ≤ b4 := Nat.le_of_eq g4.symm
 have K4 := KL.ofE E4
 have Ck0 := own_chK K4 na0 (CHr.refl hC0).1
 have Ah1 := (CHr.refl hC0).trans Ck0.1
 have F_b4_value : Fd0 Z h4 b4 .null := D4 (Or.inr (w21 hw)) (ty := (.array .byte)) (by decide)
 have F_b4_coder : Fd1 Z h4 b4 z0 := D4 (Or.inr (w22 hw)) (ty := .byte) (by decide)
 obtain ⟨T5, h5, k5, X5, e5, E5, A5, st5⟩ := newP (aty := .char) X4 hx hZ (w8 hw) e4 (g := (mkF m 9 #[vi 0, vi i_1, vi i_2, vi i_3] [z0, (.ref b4), (.ref b4)])) rfl (hb hby d118) rfl (by decide) (cap := 0) (by decide) (by decide) (by decide) (by decide)
 obtain ⟨b5, g5⟩ : ∃ z, z = h4.size := ⟨_, rfl⟩
 rw [← g5] at A5 st5
 have ge_b5 : h4.size ≤ b5 := Nat.le_of_eq g5.symm
 have K5 := KL.ofE E5
 have Ck1 := own_chK K5 na0 Ah1.1
 have Ah2 := Ah1.trans Ck1.1
 have V5 : Arv Z h5 b5 k5 .char 0 [] z0 := (Arv.new A5 (by decide)).pad (pad_rep [] z0 0)
 have f7 := (kFld K5 F_b4_value nw0)
 have f8 := (kExa K5 A4)
 have f9 := (kFld K5 F_b4_coder nw0)
 have gg10 := Nat.le_trans Z0 ge_b4
 have sz_0_2 := (Nat.le_trans K4.1 K5.1)
 have sf11 := (Ck1.2 _ (Ck0.2 _ (Safe.new ge_b4)))
 have lt_b4 : b4 < h4.size := Exa.lt A4
 obtain ⟨_, T6, L6, X6, hS6, hk6, hZ6, hown6, hQ6, hC6, st6⟩ := own_Hinit X5 hx hZ rfl hown (w9 hw) (w10 hw) (w7 hw) (w11 hw) (by decide) (r9__init_ l Z a0 hw [] b4 b5 k5 h5 n0 (Nat.le_trans Z0 sz_0_2) V5 f7 f8 f9 gg10) e5 (W := 1) (by decide) (g := (mkF m 11 #[vi 0, vi i_1, vi i_2, vi i_3] [(.ref b5), (.ref b4), (.ref b4)])) rfl hml.symm (argsL := [(.ref b5)]) (rest := [(.ref b4)]) (lenOf pd_10 rfl) rfl rfl (own_wr rfl rfl) (hb hby d119) hS0 (Nat.le_trans hk0 sz_0_2) (own_EW hw) Ah2.1 (sfS sf11 (Nat.lt_of_lt_of_le lt_b4 K5.1) sf0)
 obtain ⟨b2_1_6, kb2_1_6, rfl, N6q, K6, Q6_0, Q6_1, Q6_2, Q6_3⟩ := hQ6
 have N6 := Fr.app N0 N6q
 have Ah3 := Ah2.trans hC6
 have C0 := (KL.refl h0 []).trans K4 na0
 have C1 := C0.trans K5 na0
 have C2 := C1.trans K6 (naO (Or.inr ge_b4) (naO (Or.inr ge_b4) na0))
 have f12 := (kExa K6 f8)
 refine ⟨T6, _, some (.ref b4), _, _, X6, hS6, (by rw [show T6.heap = T6.heap from rfl]; exact hk6), (fun h => by cases h <;> rfl), ?_, Ah3, hZ6, fun fs hr => ?_⟩
 · show Q_r8_make Z i_1 i_2 i_3 h0 n0 _ T6.heap _
   exact ⟨b4, b2_1_6, kb2_1_6, rfl, N6, C2, ge_b4, Q6_0, f12, Q6_1, Q6_2, Q6_3⟩
 refine t_iloadN 1 X0.here hx hby d113 rfl rfl ?_
 refine t_ifNo 4 X0.here hx hby d114 (by decide) rfl ?_
 refine st4 _ ?_
 refine t_dup 8 X4.here hx hby d116 rfl rfl ?_
 refine t_iconst 9 (r := 0) X4.here hx hby d117 (by decide) rfl ?_
 refine st5 _ ?_
 refine st6 _ ?_
 jvm_step X6.here [X6.here.top, hx, (hb hby d141), X6.method', hret, Value.isRef, FieldType.isReference]
 first | (intro acts; rw [hr _ acts rfl rfl rfl]) | rw [hr _ _ rfl rfl rfl]
 exact Steps.refl _
def w4 (hw : HW Z a0) := ow 4 hw rfl
def w3 (hw : HW Z a0) := ow 3 hw rfl
theorem pd_11 : parseMethodDescriptor "(ICCC)Ljava/lang/String;" = some ⟨[.int, .char, .char, .char], some (.object "java/lang/String")⟩ := by decide +kernel
def w2 (hw : HW Z a0) := ow 2 hw rfl
def w27 (hw : HW Z a0) := ow 27 hw rfl
def Q_r12_length (Z : State) (o0 o_1 : Addr) (k_o_1 : ClassId) (i_3 : Int32) (h0 : Heap) (n0 : Nat) (v : Option Value) (h : Heap) (L : List Loc) : Prop := v = some z0 ∧ Fr n0 L ∧ h = h0
theorem r12_length (l : Launch) (Z : State) (a0 : Array Value) (hw : HW Z a0) (ws : List Jvm.Cond) (o0 o_1 : Addr) (k_o_1 : ClassId) (i_3 : Int32) (h0 : Heap) (n0 : Nat) (Z0 : n0 ≤ h0.size) (F_o0_value : Fd0 Z h0 o0 (.ref o_1)) (V_o_1 : Arv Z h0 o_1 k_o_1 .byte 0 [] z0) (E_o0 : Ex0 Z h0 o0) (sCS : SCS Z i_3) (F_o0_coder : Fd1 Z h0 o0 z0) (O0 : Old Z n0 h0) (hp0 : ¬ (i_3 = (0 : Int32))) :
    MF l Z y3_length b3_ 1 (some .int) ws ⟨1, 0, 0, 13⟩ #[(.ref o0)] h0 (Q_r12_length Z o0 o_1 k_o_1 i_3 h0 n0) := by
 refine own_body (plainFor_of_name pn_String564) (ef_3 o0) (by decide) (by decide) ?_
 intro p e s m below meth c s₁ hx hby hml hown hnm hret hZ hh e0 X0
 have N0 := Fr.nil n0
 obtain ⟨T2, X2, e2, st2⟩ := getF X0 hx hZ hown (host := "") (Or.inl (w25 hw)) Via.refl e0 F_o0_value (g := (mkF m 1 #[vr o0] [(.ref o0)])) rfl rfl (hb hby d18)
 obtain ⟨_, T4, L4, X4, hQ4, st4⟩ := own_virtual X2 hx hZ hown (w36 hw) (w37 hw) (nfS hZ (w39 hw)) (w39 hw) (w38 hw) (w7 hw) (w40 hw) (by decide) (r2_coder l Z a0 hw [] o0 i_3 h0 n0 Z0 sCS O0 hp0 F_o0_coder) e2 E_o0 (W := 1) (by decide) (g := (mkF m 6 #[vr o0] [(.ref o0), z0])) rfl hml.symm (argsL := []) (rest := [z0]) (lenOf pd_1 rfl) rfl rfl (own_wr rfl rfl) (hb hby d21)
 obtain ⟨rfl, N4q, e4⟩ := hQ4
 have N4 := Fr.app N0 N4q
 refine ⟨T4, _, some z0, X4, (fun h => by cases h <;> rfl), ?_, fun fs hr => ?_⟩
 · show Q_r12_length Z o0 o_1 k_o_1 i_3 h0 n0 _ T4.heap _
   rw [e4]
   exact ⟨rfl, N4, rfl⟩
 refine t_aloadN 1 X0.here hx hby d17 rfl rfl rfl ?_
 refine st2 _ ?_
 refine own_arlen (pc' := 5) X2 hx hZ e2 V_o_1 (hb hby d19) rfl ?_
 refine t_aloadN 6 X2.here hx hby d20 rfl rfl rfl ?_
 refine st4 _ ?_
 refine t_ishr 10 (r := 0) X4.here hx hby d28 (by decide : ((0 : Int32) >>> ((0 : Int32) &&& 31)) = (0 : Int32)) rfl ?_
 exact retI X4 hx hret (hb hby d29) hr
theorem d142 : decode b8_ 4 = .ok (.getstatic 1, 3) := by decide +kernel
def w46 (hw : HW Z a0) := ow 46 hw rfl
theorem d143 : decode b8_ 7 = .ok (.goto 11, 3) := by decide +kernel
theorem ef_9 (m : MethodId) : entryFrame m #[.null] 1 = mkF m 0 #[.val .null] [] := by first | (simp [entryFrame, mkF, argsToLocals, Value.category]; done) | rfl
def Q_r13_ofNullable (Z : State) (o_1 : Addr) (h0 : Heap) (n0 : Nat) (v : Option Value) (h : Heap) (L : List Loc) : Prop := v = some (.ref o_1) ∧ Fr n0 L ∧ h = h0
theorem r13_ofNullable (l : Launch) (Z : State) (a0 : Array Value) (hw : HW Z a0) (ws : List Jvm.Cond) (o_1 : Addr) (h0 : Heap) (n0 : Nat) (Z0 : n0 ≤ h0.size) (S_EMPTY : Sa4 Z (.ref o_1)) (O0 : Old Z n0 h0) :
    MF l Z y8_ofNullable b8_ 1 (some (.object "java/util/Optional")) ws ⟨0, 0, 0, 0⟩ #[.null] h0 (Q_r13_ofNullable Z o_1 h0 n0) := by
 refine own_body (plainFor_of_name pn_Optional799) (ef_9) (by decide) (by decide) ?_
 intro p e s m below meth c s₁ hx hby hml hown hnm hret hZ hh e0 X0
 have N0 := Fr.nil n0
 obtain ⟨T2, X2, e2, st2⟩ := getS2 X0 hx hZ hown (host := "") (Or.inl (w46 hw)) Via.refl e0 (Sta.ext O0.2 S_EMPTY) (g := (mkF m 4 #[.val .null] [])) rfl (hb hby d142)
 refine ⟨T2, _, some (.ref o_1), X2, (fun h => by cases h <;> rfl), ?_, fun fs hr => ?_⟩
 · show Q_r13_ofNullable Z o_1 h0 n0 _ T2.heap _
   rw [e2]
   exact ⟨rfl, N0, rfl⟩
 refine t_aloadN 1 X0.here hx hby d68 rfl rfl rfl ?_
 refine t_ifnonnullNo 4 X0.here hx hby d69 rfl ?_
 refine st2 _ ?_
 refine t_goto (pc := 7) 18 X2.here hx hby d143 (by decide) (by decide) ?_
 jvm_step X2.here [X2.here.top, hx, (hb hby d80), X2.method', hret, Value.isRef, FieldType.isReference]
 first | (intro acts; rw [hr _ acts rfl rfl rfl]) | rw [hr _ _ rfl rfl rfl]
 exact Steps.refl _
def Q_r11_unitOf (Z : State) (o0 o_1 : Addr) (k_o_1 : ClassId) (i_2 : Int32) (o_4 : Addr) (h0 : Heap) (n0 : Nat) (v : Option Value) (h : Heap) (L : List Loc) : Prop := v = some (.ref o_4) ∧ Fr n0 L ∧ h = h0
theorem r11_unitOf (l : Launch) (Z : State) (a0 : Array Value) (hw : HW Z a0) (ws : List Jvm.Cond) (o0 o_1 : Addr) (k_o_1 : ClassId) (i_2 : Int32) (o_4 : Addr) (h0 : Heap) (n0 : Nat) (Z0 : n0 ≤ h0.size) (E_o0 : Ex0 Z h0 o0) (F_o0_value : Fd0 Z h0 o0 (.ref o_1)) (V_o_1 : Arv Z h0 o_1 k_o_1 .byte 0 [] z0) (sCS : SCS Z i_2) (F_o0_coder : Fd1 Z h0 o0 z0) (O0 : Old Z n0 h0) (hp0 : ¬ (i_2 = (0 : Int32))) (S_EMPTY : Sa4 Z (.ref o_4)) :
    MF l Z y9_unitOf b2_ 2 (some (.object "java/util/Optional")) ws ⟨2, 0, 0, 25⟩ #[(.ref o0)] h0 (Q_r11_unitOf Z o0 o_1 k_o_1 i_2 o_4 h0 n0) := by
 refine own_body (plainFor_of_name pn_PaymentFrequency668) (ef_6 o0) (by decide) (by decide) ?_
 intro p e s m below meth c s₁ hx hby hml hown hnm hret hZ hh e0 X0
 have N0 := Fr.nil n0
 obtain ⟨_, T3, L3, X3, hQ3, st3⟩ := own_virtual X0 hx hZ hown (w31 hw) (w32 hw) (nfS hZ (w34 hw)) (w34 hw) (w33 hw) (w7 hw) (w35 hw) (by decide) (r12_length l Z a0 hw [] o0 o_1 k_o_1 i_2 h0 n0 Z0 F_o0_value V_o_1 E_o0 sCS F_o0_coder O0 hp0) e0 E_o0 (W := 0) (by decide) (g := (mkF m 3 #[vr o0, .val .null] [(.ref o0)])) rfl hml.symm (argsL := []) (rest := []) (lenOf pd_2 rfl) rfl rfl (own_wr rfl rfl) (hb hby d16)
 obtain ⟨rfl, N3q, e3⟩ := hQ3
 have N3 := Fr.app N0 N3q
 obtain ⟨_, T5, L5, X5, hQ5, st5⟩ := own_static X3 hx hZ hown (w42 hw) (w43 hw) (w44 hw) (w45 hw) (by decide) (r13_ofNullable l Z a0 hw [] o_4 h0 n0 Z0 S_EMPTY O0) e3 (W := 0) (by decide) (g := (mkF m 93 #[vr o0, .val .null] [.null])) rfl hml.symm (argsL := [.null]) (rest := []) (lenOf pd_8 rfl) rfl rfl (own_wr rfl rfl) (hb hby d67)
 obtain ⟨rfl, N5q, e5⟩ := hQ5
 have N5 := Fr.app N3 N5q
 refine ⟨T5, _, some (.ref o_4), X5, (fun h => by cases h <;> rfl), ?_, fun fs hr => ?_⟩
 · show Q_r11_unitOf Z o0 o_1 k_o_1 i_2 o_4 h0 n0 _ T5.heap _
   rw [e5]
   exact ⟨rfl, N5, rfl⟩
 refine t_aconst_null 1 X0.here hx hby d13 rfl ?_
 refine t_astoreN (pc' := 2) (L' := #[vr o0, .val .null]) X0.here hx hby d14 rfl rfl rfl ?_
 refine t_aloadN 3 X0.here hx hby d15 rfl rfl rfl ?_
 refine st3 _ ?_
 refine t_iconst 7 (r := 1) X3.here hx hby d30 (by decide) rfl ?_
 refine t_icmpYes (pc := 7) 92 X3.here hx hby d31 (by decide) (by decide) (by decide) ?_
 refine t_aloadN 93 X3.here hx hby d66 rfl rfl rfl ?_
 refine st5 _ ?_
 jvm_step X5.here [X5.here.top, hx, (hb hby d81), X5.method', hret, Value.isRef, FieldType.isReference]
 first | (intro acts; rw [hr _ acts rfl rfl rfl]) | rw [hr _ _ rfl rfl rfl]
 exact Steps.refl _
def w30 (hw : HW Z a0) := ow 30 hw rfl
def w29 (hw : HW Z a0) := ow 29 hw rfl
theorem pd_12 : parseMethodDescriptor "(Ljava/lang/String;)Ljava/util/Optional;" = some ⟨[(.object "java/lang/String")], some (.object "java/util/Optional")⟩ := by decide +kernel
def w28 (hw : HW Z a0) := ow 28 hw rfl
def w47 (hw : HW Z a0) := ow 47 hw rfl
theorem d144 : decode b10_ 5 = .ok (.aconst_null, 1) := by decide +kernel
theorem d145 : decode b10_ 6 = .ok (.areturn, 1) := by decide +kernel
def Q_r14_expected (Z : State) (i_1 : Int32) (h0 : Heap) (n0 : Nat) (v : Option Value) (h : Heap) (L : List Loc) : Prop := v = some .null ∧ Fr n0 L ∧ h = h0
theorem r14_expected (l : Launch) (Z : State) (a0 : Array Value) (hw : HW Z a0) (ws : List Jvm.Cond) (i_1 : Int32) (h0 : Heap) (n0 : Nat) (Z0 : n0 ≤ h0.size) :
    MF l Z y10_expected b10_ 2 (some (.object "java/time/temporal/ChronoUnit")) ws ⟨0, 0, 0, 0⟩ #[z0, (.int i_1)] h0 (Q_r14_expected Z i_1 h0 n0) := by
 refine own_body (plainFor_of_name pn_PaymentFrequencyUnitOfPinLaw855) (ef_2 (0 : Int32) i_1) (by decide) (by decide) ?_
 intro p e s m below meth c s₁ hx hby hml hown hnm hret hZ hh e0 X0
 have N0 := Fr.nil n0
 refine ⟨s₁, _, some .null, X0, (fun h => by cases h <;> rfl), ?_, fun fs hr => ?_⟩
 · show Q_r14_expected Z i_1 h0 n0 _ s₁.heap _
   rw [e0]
   exact ⟨rfl, N0, rfl⟩
 refine t_iloadN 1 X0.here hx hby d82 rfl rfl ?_
 refine t_iconst 2 (r := 1) X0.here hx hby d83 (by decide) rfl ?_
 refine t_icmpNo 5 X0.here hx hby d84 (by decide) rfl ?_
 refine t_aconst_null 6 X0.here hx hby d144 rfl ?_
 jvm_step X0.here [X0.here.top, hx, (hb hby d145), X0.method', hret, Value.isRef, FieldType.isReference]
 first | (intro acts; rw [hr _ acts rfl rfl rfl]) | rw [hr _ _ rfl rfl rfl]
 exact Steps.refl _
def w49 (hw : HW Z a0) := ow 49 hw rfl
theorem pd_13 : parseMethodDescriptor "(IC)Ljava/time/temporal/ChronoUnit;" = some ⟨[.int, .char], some (.object "java/time/temporal/ChronoUnit")⟩ := by decide +kernel
def w48 (hw : HW Z a0) := ow 48 hw rfl
def w50 (hw : HW Z a0) := ow 50 hw rfl
def w53 (hw : HW Z a0) := ow 53 hw rfl
abbrev b14_ := jdk_32_method_6_code
theorem d146 : decode b14_ 0 = .ok (.aload_n 0, 1) := by decide +kernel
theorem d147 : decode b14_ 1 = .ok (.getfield 13, 3) := by decide +kernel
theorem d148 : decode b14_ 4 = .ok (.ifnull 7, 3) := by decide +kernel
theorem d149 : decode b14_ 11 = .ok (.iconst 0, 1) := by decide +kernel
theorem d150 : decode b14_ 12 = .ok (.ireturn, 1) := by decide +kernel
abbrev y14_isPresent : MethodName := ⟨"java/util/Optional", "isPresent", "()Z"⟩
def Q_r15_isPresent (Z : State) (o0 : Addr) (h0 : Heap) (n0 : Nat) (v : Option Value) (h : Heap) (L : List Loc) : Prop := v = some z0 ∧ Fr n0 L ∧ h = h0
theorem r15_isPresent (l : Launch) (Z : State) (a0 : Array Value) (hw : HW Z a0) (ws : List Jvm.Cond) (o0 : Addr) (h0 : Heap) (n0 : Nat) (Z0 : n0 ≤ h0.size) (F_o0_value : Fd2 Z h0 o0 .null) :
    MF l Z y14_isPresent b14_ 1 (some .boolean) ws ⟨0, 0, 0, 0⟩ #[(.ref o0)] h0 (Q_r15_isPresent Z o0 h0 n0) := by
 refine own_body (plainFor_of_name pn_Optional799) (ef_3 o0) (by decide) (by decide) ?_
 intro p e s m below meth c s₁ hx hby hml hown hnm hret hZ hh e0 X0
 have N0 := Fr.nil n0
 obtain ⟨T1, X1, e1, st1⟩ := getF X0 hx hZ hown (host := "") (Or.inl (w55 hw)) Via.refl e0 F_o0_value (g := (mkF m 1 #[vr o0] [(.ref o0)])) rfl rfl (hb hby d147)
 refine ⟨T1, _, some z0, X1, (fun h => by cases h <;> rfl), ?_, fun fs hr => ?_⟩
 · show Q_r15_isPresent Z o0 h0 n0 _ T1.heap _
   rw [e1]
   exact ⟨rfl, N0, rfl⟩
 refine t_aloadN 1 X0.here hx hby d146 rfl rfl rfl ?_
 refine st1 _ ?_
 refine t_ifnullYes (pc := 4) 11 X1.here hx hby d148 (by decide) (by decide) ?_
 refine t_iconst 12 (r := 0) X1.here hx hby d149 (by decide) rfl ?_
 exact retN X1 hx (t := .boolean) hret (by simp) (hb hby d150) hr
def w54 (hw : HW Z a0) := ow 54 hw rfl
def w51 (hw : HW Z a0) := ow 51 hw rfl
def w52 (hw : HW Z a0) := ow 52 hw rfl
def Q_law (n0 : Nat) (v : Option Value) (L : List Loc) : Prop := v = some (.int 1) ∧ Fr n0 L
theorem ef_law (p0 p1 p2 p3 : Int32) (m : MethodId) : entryFrame m #[(.int p0), (.int p1), (.int p2), (.int p3)] maxLocals = mkF m 0 #[.val (.int p0), .val (.int p1), .val (.int p2), .val (.int p3), .unset, .unset, .unset, .unset, .unset, .unset, .unset] [] := by first | (simp [entryFrame, mkF, argsToLocals, Value.category, maxLocals]; done) | rfl
abbrev LawM (l : Launch) (Z : State) (ws : List Jvm.Cond)  (p0 : Int32) (p1 : Int32) (p2 : Int32) (p3 : Int32) (h0 : Heap) (n0 : Nat) : Prop := MetFree l x (head1 (Jvm.Cond.code x code maxLocals ret :: ws) room_1) (fun a U => a = #[(.int p0), (.int p1), (.int p2), (.int p3)] ∧ Z.Warmed39 U.vm ∧ U.heap = h0 ∧ CHv Z consts_1 U.vm h0 ∧ ∀ x ∈ ([] : List Addr), Safe Z consts_1 U.vm h0 x) (fun _ _ _ _ _ => True) (fun _ U o U' => ∃ v L, o = .returned v ∧ Q_law n0 v L ∧ CHr Z consts_1 U.vm U.heap U'.vm U'.heap ∧ ReturnedEndW U o U' L 24 1152)
theorem law_a0 (l : Launch) (Z : State) (a0 : Array Value) (hw : HW Z a0) (ws : List Jvm.Cond) (p0 p1 p2 p3 cs : Int32) (fm : Value) (st_EMPTY st_DAYS st_MONTHS st_YEARS : Addr) (h0 : Heap) (n0 : Nat) (Z0 : n0 ≤ h0.size) (hcs : ¬ (cs = (0 : Int32))) (hln : (p0 &&& (3 : Int32)) = (0 : Int32)) (hbit : (((p0.toUInt32 >>> ((2 : Int32) &&& 31).toUInt32).toInt32) &&& (1 : Int32)) = (0 : Int32)) (sCS : SCS Z cs) (S_EMPTY : Sa4 Z (.ref st_EMPTY)) (O0 : Old Z n0 h0) (E_st_EMPTY : Ex1 Z h0 st_EMPTY) (F_st_EMPTY_value : Fd2 Z h0 st_EMPTY .null) :
    LawM l Z ws p0 p1 p2 p3 h0 n0 := by
 refine own_bodyH (k := 6) (n := 12) (y := x) (Q := fun v _ L => Q_law n0 v L) (own_EW hw) (plainFor_of_name pn_PaymentFrequencyUnitOfPinLaw855) (ef_law p0 p1 p2 p3) (by decide) (by decide) ?_
 intro p e s m below meth c s₁ hx hby hml hown hnm hret hZ e0 hS0 hk0 X0 hC0 hSF0
 have N0 := Fr.nil n0
 obtain ⟨_, T1, L1, X1, hS1, hk1, hZ1, hown1, hQ1, hC1, st1⟩ := own_Hstatic X0 hx hZ hown (w1 hw) (w2 hw) (w3 hw) (w4 hw) (by decide) (r8_make l Z a0 hw [] (own_ch p1) (own_ch p2) (own_ch p3) h0 n0 Z0) e0 (W := 0) (by decide) (g := (mkF m 102 #[vi p0, vi p1, vi p2, vi p3, vi 0, vi ((own_ch p1)), vi ((own_ch p2)), vi ((own_ch p3)), .unset, .unset, .unset] [(.int (own_ch p3)), (.int (own_ch p2)), (.int (own_ch p1)), z0])) rfl hml.symm (argsL := [z0, (.int (own_ch p1)), (.int (own_ch p2)), (.int (own_ch p3))]) (rest := []) (lenOf pd_11 rfl) rfl rfl (own_wr rfl rfl) (hb hby at_102) hS0 hk0 (own_EW hw) (CHr.refl hC0).1 sf0
 obtain ⟨b4_1, b2_1_6_1, kb2_1_6_1, rfl, N1q, K1, Q1_0, Q1_1, Q1_2, Q1_3, Q1_4, Q1_5⟩ := hQ1
 have N1 := Fr.app N0 N1q
 have Ah1 := (CHr.refl hC0).trans hC1
 have f4 := (kOld K1 O0 na0)
 obtain ⟨_, T3, L3, X3, hQ3, st3⟩ := own_static X1 hx hZ1 hown1 (w27 hw) (w28 hw) (w29 hw) (w30 hw) (by decide) (r11_unitOf l Z a0 hw [] b4_1 b2_1_6_1 kb2_1_6_1 cs st_EMPTY T1.heap n0 (Nat.le_trans Z0 K1.1) Q1_2 Q1_3 Q1_5 sCS Q1_4 f4 hcs S_EMPTY) rfl (W := 0) (by decide) (g := (mkF m 109 #[vi p0, vi p1, vi p2, vi p3, vi 0, vi ((own_ch p1)), vi ((own_ch p2)), vi ((own_ch p3)), vr b4_1, .unset, .unset] [(.ref b4_1)])) rfl hml.symm (argsL := [(.ref b4_1)]) (rest := []) (lenOf pd_12 rfl) rfl rfl (own_wr rfl rfl) (hb hby at_109)
 obtain ⟨rfl, N3q, e3⟩ := hQ3
 have N3 := Fr.app N1 N3q
 obtain ⟨_, T5, L5, X5, hQ5, st5⟩ := own_static X3 hx hZ1 hown1 (w47 hw) (w48 hw) (w3 hw) (w49 hw) (by decide) (r14_expected l Z a0 hw [] (own_ch p1) T1.heap n0 (Nat.le_trans Z0 K1.1)) e3 (W := 0) (by decide) (g := (mkF m 118 #[vi p0, vi p1, vi p2, vi p3, vi 0, vi ((own_ch p1)), vi ((own_ch p2)), vi ((own_ch p3)), vr b4_1, vr st_EMPTY, .unset] [(.int (own_ch p1)), z0])) rfl hml.symm (argsL := [z0, (.int (own_ch p1))]) (rest := []) (lenOf pd_13 rfl) rfl rfl (own_wr rfl rfl) (hb hby at_118)
 obtain ⟨rfl, N5q, e5⟩ := hQ5
 have N5 := Fr.app N3 N5q
 have f7 := (kFld K1 F_st_EMPTY_value nw0)
 have f8 := (kExa K1 E_st_EMPTY)
 obtain ⟨_, T6, L6, X6, hQ6, st6⟩ := own_virtual X5 hx hZ1 hown1 (w50 hw) (w51 hw) (nfS hZ1 (w53 hw)) (w53 hw) (w52 hw) (w44 hw) (w54 hw) (by decide) (r15_isPresent l Z a0 hw [] st_EMPTY T1.heap n0 (Nat.le_trans Z0 K1.1) f7) e5 f8 (W := 0) (by decide) (g := (mkF m 130 #[vi p0, vi p1, vi p2, vi p3, vi 0, vi ((own_ch p1)), vi ((own_ch p2)), vi ((own_ch p3)), vr b4_1, vr st_EMPTY, .val .null] [(.ref st_EMPTY)])) rfl hml.symm (argsL := []) (rest := []) (lenOf pd_3 rfl) rfl rfl (own_wr rfl rfl) (hb hby at_130)
 obtain ⟨rfl, N6q, e6⟩ := hQ6
 have N6 := Fr.app N5 N6q
 refine ⟨T6, _, some (.int 1), _, _, X6, hS1, (by rw [e6]; exact hk1), (fun h => by cases h <;> rfl), ?_, (by rw [e6]; exact Ah1), hZ1, fun fs hr => ?_⟩
 · show Q_law n0 _ _
   exact ⟨rfl, N6⟩
 refine t_iloadN 1 X0.here hx hby at_0 rfl rfl ?_
 refine t_iconst 2 (r := 3) X0.here hx hby at_1 (by decide) rfl ?_
 refine t_iand 3 (r := 0) X0.here hx hby at_2 hln rfl ?_
 refine t_istore (pc' := 5) (L' := #[vi p0, vi p1, vi p2, vi p3, vi 0, .unset, .unset, .unset, .unset, .unset, .unset]) X0.here hx hby at_3 rfl rfl ?_
 refine t_iloadN 6 X0.here hx hby at_5 rfl rfl ?_
 refine X0.ldcInt hx hown (mvT hZ (w0 hw)) (g := (mkF m 6 #[vi p0, vi p1, vi p2, vi p3, vi 0, .unset, .unset, .unset, .unset, .unset, .unset] [(.int p1)])) rfl (hb hby at_6) _ ?_
 refine t_iand 9 (r := (own_ch p1)) X0.here hx hby at_8 (Eq.refl (own_ch p1)) rfl ?_
 refine t_i2c 10 (r := (own_ch p1)) X0.here hx hby at_9 (own_c2d (own_m16a p1) (own_m16b p1)) rfl ?_
 refine t_istore (pc' := 12) (L' := #[vi p0, vi p1, vi p2, vi p3, vi 0, vi ((own_ch p1)), .unset, .unset, .unset, .unset, .unset]) X0.here hx hby at_10 rfl rfl ?_
 refine t_iloadN 13 X0.here hx hby at_12 rfl rfl ?_
 refine t_iconst 14 (r := 2) X0.here hx hby at_13 (by decide) rfl ?_
 refine t_iushr 15 X0.here hx hby at_14 rfl rfl ?_
 refine t_iconst 16 (r := 1) X0.here hx hby at_15 (by decide) rfl ?_
 refine t_iand 17 (r := 0) X0.here hx hby at_16 hbit rfl ?_
 refine t_ifYes (pc := 17) 80 X0.here hx hby at_17 (by decide) (by decide) (by decide) ?_
 refine t_iloadN 81 X0.here hx hby at_80 rfl rfl ?_
 refine X0.ldcInt hx hown (mvT hZ (w0 hw)) (g := (mkF m 81 #[vi p0, vi p1, vi p2, vi p3, vi 0, vi ((own_ch p1)), .unset, .unset, .unset, .unset, .unset] [(.int p2)])) rfl (hb hby at_81) _ ?_
 refine t_iand 84 (r := (own_ch p2)) X0.here hx hby at_83 (Eq.refl (own_ch p2)) rfl ?_
 refine t_i2c 85 (r := (own_ch p2)) X0.here hx hby at_84 (own_c2d (own_m16a p2) (own_m16b p2)) rfl ?_
 refine t_istore (pc' := 87) (L' := #[vi p0, vi p1, vi p2, vi p3, vi 0, vi ((own_ch p1)), vi ((own_ch p2)), .unset, .unset, .unset, .unset]) X0.here hx hby at_85 rfl rfl ?_
 refine t_iloadN 88 X0.here hx hby at_87 rfl rfl ?_
 refine X0.ldcInt hx hown (mvT hZ (w0 hw)) (g := (mkF m 88 #[vi p0, vi p1, vi p2, vi p3, vi 0, vi ((own_ch p1)), vi ((own_ch p2)), .unset, .unset, .unset, .unset] [(.int p3)])) rfl (hb hby at_88) _ ?_
 refine t_iand 91 (r := (own_ch p3)) X0.here hx hby at_90 (Eq.refl (own_ch p3)) rfl ?_
 refine t_i2c 92 (r := (own_ch p3)) X0.here hx hby at_91 (own_c2d (own_m16a p3) (own_m16b p3)) rfl ?_
 refine t_istore (pc' := 94) (L' := #[vi p0, vi p1, vi p2, vi p3, vi 0, vi ((own_ch p1)), vi ((own_ch p2)), vi ((own_ch p3)), .unset, .unset, .unset]) X0.here hx hby at_92 rfl rfl ?_
 refine t_iload 96 X0.here hx hby at_94 rfl rfl ?_
 refine t_iload 98 X0.here hx hby at_96 rfl rfl ?_
 refine t_iload 100 X0.here hx hby at_98 rfl rfl ?_
 refine t_iload 102 X0.here hx hby at_100 rfl rfl ?_
 refine st1 _ ?_
 refine t_astore (pc' := 107) (L' := #[vi p0, vi p1, vi p2, vi p3, vi 0, vi ((own_ch p1)), vi ((own_ch p2)), vi ((own_ch p3)), vr b4_1, .unset, .unset]) X1.here hx hby at_105 rfl rfl rfl ?_
 refine t_aload 109 X1.here hx hby at_107 rfl rfl rfl ?_
 refine st3 _ ?_
 refine t_astore (pc' := 114) (L' := #[vi p0, vi p1, vi p2, vi p3, vi 0, vi ((own_ch p1)), vi ((own_ch p2)), vi ((own_ch p3)), vr b4_1, vr st_EMPTY, .unset]) X3.here hx hby at_112 rfl rfl rfl ?_
 refine t_iload 116 X3.here hx hby at_114 rfl rfl ?_
 refine t_iload 118 X3.here hx hby at_116 rfl rfl ?_
 refine st5 _ ?_
 refine t_astore (pc' := 123) (L' := #[vi p0, vi p1, vi p2, vi p3, vi 0, vi ((own_ch p1)), vi ((own_ch p2)), vi ((own_ch p3)), vr b4_1, vr st_EMPTY, .val .null]) X5.here hx hby at_121 rfl rfl rfl ?_
 refine t_aload 125 X5.here hx hby at_123 rfl rfl rfl ?_
 refine t_ifnonnullNo 128 X5.here hx hby at_125 rfl ?_
 refine t_aload 130 X5.here hx hby at_128 rfl rfl rfl ?_
 refine st6 _ ?_
 refine t_ifNo 136 X6.here hx hby at_133 (by decide) rfl ?_
 refine t_iconst 137 (r := 1) X6.here hx hby at_136 (by decide) rfl ?_
 refine t_goto (pc := 137) 141 X6.here hx hby at_137 (by decide) (by decide) ?_
 exact retN X6 hx (t := .boolean) hret (by simp) (hb hby at_141) hr
theorem d151 : decode b11_ 15 = .ok (.iload_n 0, 1) := by decide +kernel
theorem d152 : decode b11_ 16 = .ok (.iconst 1, 1) := by decide +kernel
theorem d153 : decode b11_ 17 = .ok (.if_icmp .ne 8, 3) := by decide +kernel
theorem d154 : decode b11_ 20 = .ok (.iload_n 1, 1) := by decide +kernel
theorem d155 : decode b11_ 21 = .ok (.invokestatic 40, 3) := by decide +kernel
def w87 (hw : HW Z a0) := ow 87 hw rfl
abbrev b15_ := jdk_42_method_139_code
theorem d156 : decode b15_ 0 = .ok (.getstatic 38, 3) := by decide +kernel
theorem d157 : decode b15_ 3 = .ok (.ifCond .eq 23, 3) := by decide +kernel
theorem d158 : decode b15_ 6 = .ok (.iload_n 0, 1) := by decide +kernel
theorem d159 : decode b15_ 7 = .ok (.invokestatic 1015, 3) := by decide +kernel
def w90 (hw : HW Z a0) := ow 90 hw rfl
abbrev b16_ := jdk_43_method_3_code
theorem d160 : decode b16_ 0 = .ok (.iload_n 0, 1) := by decide +kernel
theorem d161 : decode b16_ 1 = .ok (.sipush 255, 3) := by decide +kernel
theorem d162 : decode b16_ 4 = .ok (.if_icmp .gt 7, 3) := by decide +kernel
theorem d163 : decode b16_ 7 = .ok (.iconst 1, 1) := by decide +kernel
theorem d164 : decode b16_ 8 = .ok (.goto 4, 3) := by decide +kernel
theorem d165 : decode b16_ 12 = .ok (.ireturn, 1) := by decide +kernel
theorem ef_10 (x0 : Int32) (m : MethodId) : entryFrame m #[(.int x0)] 1 = mkF m 0 #[.val (.int x0)] [] := by first | (simp [entryFrame, mkF, argsToLocals, Value.category]; done) | rfl
abbrev y15_canEncode : MethodName := ⟨"java/lang/StringLatin1", "canEncode", "(C)Z"⟩
def Q_r18_canEncode (Z : State) (i_1 : Int32) (h0 : Heap) (n0 : Nat) (v : Option Value) (h : Heap) (L : List Loc) : Prop := v = some (.int 1) ∧ Fr n0 L ∧ h = h0
theorem r18_canEncode (l : Launch) (Z : State) (a0 : Array Value) (hw : HW Z a0) (ws : List Jvm.Cond) (i_1 : Int32) (h0 : Heap) (n0 : Nat) (Z0 : n0 ≤ h0.size) (hp0 : ¬ ((255 : Int32) < i_1)) :
    MF l Z y15_canEncode b16_ 1 (some .boolean) ws ⟨0, 0, 0, 0⟩ #[(.int i_1)] h0 (Q_r18_canEncode Z i_1 h0 n0) := by
 refine own_body (plainFor_of_name pn_StringLatin1120) (ef_10 i_1) (by decide) (by decide) ?_
 intro p e s m below meth c s₁ hx hby hml hown hnm hret hZ hh e0 X0
 have N0 := Fr.nil n0
 refine ⟨s₁, _, some (.int 1), X0, (fun h => by cases h <;> rfl), ?_, fun fs hr => ?_⟩
 · show Q_r18_canEncode Z i_1 h0 n0 _ s₁.heap _
   rw [e0]
   exact ⟨rfl, N0, rfl⟩
 refine t_iloadN 1 X0.here hx hby d160 rfl rfl ?_
 refine t_sipush 4 (r := 255) X0.here hx hby d161 (by decide) rfl ?_
 refine t_icmpNo 7 X0.here hx hby d162 (flt hp0).2.2.1 rfl ?_
 refine t_iconst 8 (r := 1) X0.here hx hby d163 (by decide) rfl ?_
 refine t_goto (pc := 8) 12 X0.here hx hby d164 (by decide) (by decide) ?_
 exact retN X0 hx (t := .boolean) hret (by simp) (hb hby d165) hr
def w93 (hw : HW Z a0) := ow 93 hw rfl
theorem pd_14 : parseMethodDescriptor "(C)Z" = some ⟨[.char], some .boolean⟩ := by decide +kernel
def w91 (hw : HW Z a0) := ow 91 hw rfl
theorem d166 : decode b15_ 10 = .ok (.ifCond .eq 16, 3) := by decide +kernel
theorem d167 : decode b15_ 13 = .ok (.new 10, 3) := by decide +kernel
def w94 (hw : HW Z a0) := ow 94 hw rfl
theorem d168 : decode b15_ 16 = .ok (.dup, 1) := by decide +kernel
theorem d169 : decode b15_ 17 = .ok (.iload_n 0, 1) := by decide +kernel
theorem d170 : decode b15_ 18 = .ok (.invokestatic 1018, 3) := by decide +kernel
def w95 (hw : HW Z a0) := ow 95 hw rfl
abbrev b17_ := jdk_43_method_46_code
theorem d171 : decode b17_ 0 = .ok (.iconst 1, 1) := by decide +kernel
theorem d172 : decode b17_ 1 = .ok (.newarray .byte, 2) := by decide +kernel
theorem d173 : decode b17_ 3 = .ok (.dup, 1) := by decide +kernel
theorem d174 : decode b17_ 4 = .ok (.iconst 0, 1) := by decide +kernel
theorem d175 : decode b17_ 5 = .ok (.iload_n 0, 1) := by decide +kernel
theorem d176 : decode b17_ 6 = .ok (.i2b, 1) := by decide +kernel
theorem d177 : decode b17_ 7 = .ok (.bastore, 1) := by decide +kernel
theorem d178 : decode b17_ 8 = .ok (.areturn, 1) := by decide +kernel
abbrev y16_toBytes : MethodName := ⟨"java/lang/StringLatin1", "toBytes", "(C)[B"⟩
def Q_r19_toBytes (Z : State) (i_1 : Int32) (h0 : Heap) (n0 : Nat) (v : Option Value) (h : Heap) (L : List Loc) : Prop := ∃ b2 : Addr, ∃ k2 : ClassId, v = some (.ref b2) ∧ Fr n0 L ∧ KL h0 h [] ∧ h0.size ≤ b2 ∧ Arv Z h b2 k2 .byte 1 [(.int (i_1.toInt8.toInt32))] z0
theorem r19_toBytes (l : Launch) (Z : State) (a0 : Array Value) (hw : HW Z a0) (ws : List Jvm.Cond) (i_1 : Int32) (h0 : Heap) (n0 : Nat) (Z0 : n0 ≤ h0.size) :
    MF l Z y16_toBytes b17_ 1 (some (.array .byte)) ws ⟨0, 1, 1, 0⟩ #[(.int i_1)] h0 (Q_r19_toBytes Z i_1 h0 n0) := by
 refine own_body (plainFor_of_name pn_StringLatin1120) (ef_10 i_1) (by decide) (by decide) ?_
 intro p e s m below meth c s₁ hx hby hml hown hnm hret hZ hh e0 X0
 have N0 := Fr.nil n0
 obtain ⟨T2, h2, k2, X2, e2, E2, A2, st2⟩ := newP (aty := .byte) X0 hx hZ (w20 hw) e0 (g := (mkF m 1 #[vi i_1] [(.int 1)])) rfl (hb hby d172) rfl (by decide) (cap := 1) (by decide) (by decide) (by decide) (by decide)
 obtain ⟨b2, g2⟩ : ∃ z, z = h0.size := ⟨_, rfl⟩
 rw [← g2] at A2 st2
 have ge_b2 : h0.size ≤ b2 := Nat.le_of_eq g2.symm
 have K2 := KL.ofE E2
 have V2 : Arv Z h2 b2 k2 .byte 1 [z0] z0 := (Arv.new A2 (by decide)).pad (pad_rep [] z0 1)
 obtain ⟨T3, h3, X3, e3, W3, V3, st3⟩ := own_astB X2 hx hZ e2 V2 (j := 0) (by decide) 0 rfl (Nat.le_of_ble_eq_true rfl) (g := (mkF m 7 #[vi i_1] [(.int (i_1.toInt8.toInt32)), z0, (.ref b2), (.ref b2)])) rfl rfl (hb hby d177)
 rw [show (nar .byte (i_1.toInt8.toInt32)) = (i_1.toInt8.toInt32) from (own_narb _)] at V3
 have gg4 := Nat.le_trans Z0 ge_b2
 have K3 := KL.ofW W3
 replace V3 : Arv Z h3 b2 k2 .byte 1 [(.int (i_1.toInt8.toInt32))] z0 := V3
 have N3 := Fr.snoc X3 N0 gg4
 have C0 := (KL.refl h0 []).trans K2 na0
 have C1 := C0.trans K3 (naO (Or.inr ge_b2) na0)
 refine ⟨T3, _, some (.ref b2), X3, (fun h => by cases h <;> rfl), ?_, fun fs hr => ?_⟩
 · show Q_r19_toBytes Z i_1 h0 n0 _ T3.heap _
   rw [e3]
   exact ⟨b2, k2, rfl, N3, C1, ge_b2, V3⟩
 refine t_iconst 1 (r := 1) X0.here hx hby d171 (by decide) rfl ?_
 refine st2 _ ?_
 refine t_dup 4 X2.here hx hby d173 rfl rfl ?_
 refine t_iconst 5 (r := 0) X2.here hx hby d174 (by decide) rfl ?_
 refine t_iloadN 6 X2.here hx hby d175 rfl rfl ?_
 refine t_i2b 7 X2.here hx hby d176 rfl rfl ?_
 refine st3 _ ?_
 jvm_step X3.here [X3.here.top, hx, (hb hby d178), X3.method', hret, Value.isRef, FieldType.isReference]
 first | (intro acts; rw [hr _ acts rfl rfl rfl]) | rw [hr _ _ rfl rfl rfl]
 exact Steps.refl _
def w97 (hw : HW Z a0) := ow 97 hw rfl
theorem pd_15 : parseMethodDescriptor "(C)[B" = some ⟨[.char], some (.array .byte)⟩ := by decide +kernel
def w96 (hw : HW Z a0) := ow 96 hw rfl
theorem d179 : decode b15_ 21 = .ok (.iconst 0, 1) := by decide +kernel
theorem d180 : decode b15_ 22 = .ok (.invokespecial 209, 3) := by decide +kernel
def w98 (hw : HW Z a0) := ow 98 hw rfl
abbrev b18_ := jdk_42_method_151_code
theorem d181 : decode b18_ 0 = .ok (.aload_n 0, 1) := by decide +kernel
theorem d182 : decode b18_ 1 = .ok (.invokespecial 1, 3) := by decide +kernel
theorem d183 : decode b18_ 4 = .ok (.aload_n 0, 1) := by decide +kernel
theorem d184 : decode b18_ 5 = .ok (.aload_n 1, 1) := by decide +kernel
theorem d185 : decode b18_ 6 = .ok (.putfield 9, 3) := by decide +kernel
theorem d186 : decode b18_ 9 = .ok (.aload_n 0, 1) := by decide +kernel
theorem d187 : decode b18_ 10 = .ok (.iload_n 2, 1) := by decide +kernel
theorem d188 : decode b18_ 11 = .ok (.putfield 15, 3) := by decide +kernel
theorem d189 : decode b18_ 14 = .ok (.return_, 1) := by decide +kernel
theorem ef_11 (x0 x1 : Addr) (x2 : Int32) (m : MethodId) : entryFrame m #[(.ref x0), (.ref x1), (.int x2)] 3 = mkF m 0 #[.val (.ref x0), .val (.ref x1), .val (.int x2)] [] := by first | (simp [entryFrame, mkF, argsToLocals, Value.category]; done) | rfl
abbrev y17__init_ : MethodName := ⟨"java/lang/String", "<init>", "([BB)V"⟩
def WS_r20__init_ (Z : State) (o0 : Addr) : List (Addr × Nat) := [(o0, (sl0 Z)), (o0, (sl1 Z))]
def Q_r20__init_ (Z : State) (o0 o1 : Addr) (h0 : Heap) (n0 : Nat) (v : Option Value) (h : Heap) (L : List Loc) : Prop := v = none ∧ Fr n0 L ∧ KL h0 h (WS_r20__init_ Z o0) ∧ Fd0 Z h o0 (.ref o1) ∧ Fd1 Z h o0 z0
theorem r20__init_ (l : Launch) (Z : State) (a0 : Array Value) (hw : HW Z a0) (ws : List Jvm.Cond) (o0 o1 : Addr) (h0 : Heap) (n0 : Nat) (Z0 : n0 ≤ h0.size) (F_o0_value : Fd0 Z h0 o0 .null) (E_o0 : Ex0 Z h0 o0) (g_o0 : n0 ≤ o0) (F_o0_coder : Fd1 Z h0 o0 z0) :
    MF l Z y17__init_ b18_ 3 none ws ⟨1, 0, 0, 12⟩ #[(.ref o0), (.ref o1), z0] h0 (Q_r20__init_ Z o0 o1 h0 n0) := by
 refine own_body (plainFor_of_name pn_String564) (ef_11 o0 o1 (0 : Int32)) (by decide) (by decide) ?_
 intro p e s m below meth c s₁ hx hby hml hown hnm hret hZ hh e0 X0
 have N0 := Fr.nil n0
 obtain ⟨T1, X1, e1, st1⟩ := initO X0 hx hZ hown (w16 hw) (w17 hw) (w18 hw) e0 (g := (mkF m 1 #[vr o0, vr o1, vi 0] [(.ref o0)])) rfl hml.symm rfl (hb hby d182) (by decide) (W := 0) (own_wr rfl rfl) (by decide)
 obtain ⟨T2, h2, X2, e2, W2, st2⟩ := putF X1 hx hZ hown (host := "") (Or.inl (w25 hw)) Via.refl e1 F_o0_value E_o0 (Or.inr ⟨(w21 hw), rfl, hnm⟩) (w6 hw) (ty := (.array .byte)) (by decide) rfl rfl (g := (mkF m 6 #[vr o0, vr o1, vi 0] [(.ref o1), (.ref o0)])) rfl rfl (hb hby d185)
 have K2 := KL.ofW W2
 have Fw2 : Fd0 Z h2 o0 (.ref o1) := Fld.same W2 F_o0_value
 have N2 := Fr.snoc X2 N0 g_o0
 have f3 := (kFld K2 F_o0_coder (nwR (sn_0 hw) nw0))
 have f4 := (kExa K2 E_o0)
 obtain ⟨T5, h5, X5, e5, W5, st5⟩ := putF X2 hx hZ hown (host := "") (Or.inl (w26 hw)) Via.refl e2 f3 f4 (Or.inr ⟨(w22 hw), rfl, hnm⟩) (w6 hw) (ty := .byte) (by decide) (by decide) (by decide) (g := (mkF m 11 #[vr o0, vr o1, vi 0] [z0, (.ref o0)])) rfl rfl (hb hby d188)
 have K5 := KL.ofW W5
 have Fw5 : Fd1 Z h5 o0 z0 := Fld.same W5 f3
 have N5 := Fr.snoc X5 N2 g_o0
 have C0 := (KL.refl h0 (WS_r20__init_ Z o0)).trans K2 (naO (own_mi 0 rfl) na0)
 have C1 := C0.trans K5 (naO (own_mi 1 rfl) na0)
 have f6 := (kFld K5 Fw2 (nwR (sn_1 hw) nw0))
 refine ⟨T5, _, none, X5, (fun h => by cases h <;> rfl), ?_, fun fs hr => ?_⟩
 · show Q_r20__init_ Z o0 o1 h0 n0 _ T5.heap _
   rw [e5]
   exact ⟨rfl, N5, C1, f6, Fw5⟩
 refine t_aloadN 1 X0.here hx hby d181 rfl rfl rfl ?_
 refine st1 _ ?_
 refine t_aloadN 5 X1.here hx hby d183 rfl rfl rfl ?_
 refine t_aloadN 6 X1.here hx hby d184 rfl rfl rfl ?_
 refine st2 _ ?_
 refine t_aloadN 10 X2.here hx hby d186 rfl rfl rfl ?_
 refine t_iloadN 11 X2.here hx hby d187 rfl rfl ?_
 refine st5 _ ?_
 exact X5.returnOut hx hret (hb hby d189) hr
def w100 (hw : HW Z a0) := ow 100 hw rfl
theorem pd_16 : parseMethodDescriptor "([BB)V" = some ⟨[(.array .byte), .byte], none⟩ := by decide +kernel
def w99 (hw : HW Z a0) := ow 99 hw rfl
theorem d190 : decode b15_ 25 = .ok (.areturn, 1) := by decide +kernel
abbrev y18_valueOf : MethodName := ⟨"java/lang/String", "valueOf", "(C)Ljava/lang/String;"⟩
def Q_r17_valueOf (Z : State) (i_1 i_2 : Int32) (h0 : Heap) (n0 : Nat) (v : Option Value) (h : Heap) (L : List Loc) : Prop := ∃ b5 : Addr, ∃ b2_6 : Addr, ∃ k2_6 : ClassId, v = some (.ref b5) ∧ Fr n0 L ∧ KL h0 h [] ∧ h0.size ≤ b5 ∧ h0.size ≤ b2_6 ∧ b5 ≠ b2_6 ∧ Ex0 Z h b5 ∧ Fd0 Z h b5 (.ref b2_6) ∧ Fd1 Z h b5 z0 ∧ Arv Z h b2_6 k2_6 .byte 1 [(.int (i_1.toInt8.toInt32))] z0
theorem r17_valueOf (l : Launch) (Z : State) (a0 : Array Value) (hw : HW Z a0) (ws : List Jvm.Cond) (i_1 i_2 : Int32) (h0 : Heap) (n0 : Nat) (Z0 : n0 ≤ h0.size) (sCS : SCS Z i_2) (O0 : Old Z n0 h0) (hp0 : ¬ (i_2 = (0 : Int32))) (hp1 : ¬ ((255 : Int32) < i_1)) :
    MF l Z y18_valueOf b15_ 1 (some (.object "java/lang/String")) ws ⟨2, 2, 5, 27⟩ #[(.int i_1)] h0 (Q_r17_valueOf Z i_1 i_2 h0 n0) := by
 refine own_body (plainFor_of_name pn_String564) (ef_10 i_1) (by decide) (by decide) ?_
 intro p e s m below meth c s₁ hx hby hml hown hnm hret hZ hh e0 X0
 have N0 := Fr.nil n0
 obtain ⟨T3, X3, e3, st3⟩ := getS2 X0 hx hZ hown (host := "") (Or.inl (w41 hw)) Via.refl e0 (Sta.ext O0.2 sCS) (g := (mkF m 0 #[vi i_1] [])) rfl (hb hby d156)
 obtain ⟨_, T4, L4, X4, hQ4, st4⟩ := own_static X3 hx hZ hown (w90 hw) (w91 hw) (w92 hw) (w93 hw) (by decide) (r18_canEncode l Z a0 hw [] i_1 h0 n0 Z0 hp1) e3 (W := 0) (by decide) (g := (mkF m 7 #[vi i_1] [(.int i_1)])) rfl hml.symm (argsL := [(.int i_1)]) (rest := []) (lenOf pd_14 rfl) rfl rfl (own_wr rfl rfl) (hb hby d159)
 obtain ⟨rfl, N4q, e4⟩ := hQ4
 have N4 := Fr.app N0 N4q
 obtain ⟨T5, h5, X5, e5, E5, A5, D5, -, st5⟩ := newO X4 hx hZ hown (w94 hw) (w6 hw) (w7 hw) e4 (g := (mkF m 13 #[vi i_1] [])) rfl (hb hby d167) (by decide) (by decide)
 obtain ⟨b5, g5⟩ : ∃ z, z = h0.size := ⟨_, rfl⟩
 rw [← g5] at A5 D5 st5
 have ge_b5 : h0.size ≤ b5 := Nat.le_of_eq g5.symm
 have K5 := KL.ofE E5
 have F_b5_value : Fd0 Z h5 b5 .null := D5 (Or.inr (w21 hw)) (ty := (.array .byte)) (by decide)
 have F_b5_coder : Fd1 Z h5 b5 z0 := D5 (Or.inr (w22 hw)) (ty := .byte) (by decide)
 obtain ⟨_, T6, L6, X6, hQ6, st6⟩ := own_static X5 hx hZ hown (w95 hw) (w96 hw) (w92 hw) (w97 hw) (by decide) (r19_toBytes l Z a0 hw [] i_1 h5 n0 (Nat.le_trans Z0 K5.1)) e5 (W := 2) (by decide) (g := (mkF m 18 #[vi i_1] [(.int i_1), (.ref b5), (.ref b5)])) rfl hml.symm (argsL := [(.int i_1)]) (rest := [(.ref b5), (.ref b5)]) (lenOf pd_15 rfl) rfl rfl (own_wr rfl rfl) (hb hby d170)
 obtain ⟨b2_6, k2_6, rfl, N6q, K6, Q6_0, Q6_1⟩ := hQ6
 have N6 := Fr.app N4 N6q
 have f9 := (kFld K6 F_b5_value nw0)
 have f10 := (kExa K6 A5)
 have gg11 := Nat.le_trans Z0 ge_b5
 have f12 := (kFld K6 F_b5_coder nw0)
 have sz_0_2 := (Nat.le_trans K5.1 K6.1)
 obtain ⟨_, T8, L8, X8, hQ8, st8⟩ := own_init X6 hx hZ rfl hown (w98 hw) (w99 hw) (w7 hw) (w100 hw) (by decide) (r20__init_ l Z a0 hw [] b5 b2_6 T6.heap n0 (Nat.le_trans Z0 sz_0_2) f9 f10 gg11 f12) rfl (W := 1) (by decide) (g := (mkF m 22 #[vi i_1] [z0, (.ref b2_6), (.ref b5), (.ref b5)])) rfl hml.symm (argsL := [(.ref b2_6), z0]) (rest := [(.ref b5)]) (lenOf pd_16 rfl) rfl rfl (own_wr rfl rfl) (hb hby d180)
 obtain ⟨rfl, N8q, K8, Q8_0, Q8_1⟩ := hQ8
 have N8 := Fr.app N6 N8q
 have C0 := (KL.refl h0 []).trans K5 na0
 have C1 := C0.trans K6 na0
 have C2 := C1.trans K8 (naO (Or.inr ge_b5) (naO (Or.inr ge_b5) na0))
 have lt_b5 : b5 < h5.size := Exa.lt A5
 have ne13 := lt_ne lt_b5 Q6_0
 have f14 := (kExa K8 f10)
 have f15 := (kArv K8 Q6_1 (naN ne13 (naN ne13 na0)))
 refine ⟨T8, _, some (.ref b5), X8, (fun h => by cases h <;> rfl), ?_, fun fs hr => ?_⟩
 · show Q_r17_valueOf Z i_1 i_2 h0 n0 _ T8.heap _
   exact ⟨b5, b2_6, k2_6, rfl, N8, C2, ge_b5, (Nat.le_trans K5.1 Q6_0), ne13, f14, Q8_0, Q8_1, f15⟩
 refine st3 _ ?_
 refine t_ifNo 6 X3.here hx hby d157 ((if0 _ _).trans (feq hp0).1) rfl ?_
 refine t_iloadN 7 X3.here hx hby d158 rfl rfl ?_
 refine st4 _ ?_
 refine t_ifNo 13 X4.here hx hby d166 (by decide) rfl ?_
 refine st5 _ ?_
 refine t_dup 17 X5.here hx hby d168 rfl rfl ?_
 refine t_iloadN 18 X5.here hx hby d169 rfl rfl ?_
 refine st6 _ ?_
 refine t_iconst 22 (r := 0) X6.here hx hby d179 (by decide) rfl ?_
 refine st8 _ ?_
 jvm_step X8.here [X8.here.top, hx, (hb hby d190), X8.method', hret, Value.isRef, FieldType.isReference]
 first | (intro acts; rw [hr _ acts rfl rfl rfl]) | rw [hr _ _ rfl rfl rfl]
 exact Steps.refl _
def w89 (hw : HW Z a0) := ow 89 hw rfl
theorem pd_17 : parseMethodDescriptor "(C)Ljava/lang/String;" = some ⟨[.char], some (.object "java/lang/String")⟩ := by decide +kernel
def w88 (hw : HW Z a0) := ow 88 hw rfl
theorem d191 : decode b11_ 24 = .ok (.areturn, 1) := by decide +kernel
def Q_r16_make (Z : State) (i_1 i_2 i_3 i_4 : Int32) (h0 : Heap) (n0 : Nat) (v : Option Value) (h : Heap) (L : List Loc) : Prop := ∃ b5_5 : Addr, ∃ b2_6_5 : Addr, ∃ k2_6_5 : ClassId, v = some (.ref b5_5) ∧ Fr n0 L ∧ KL h0 h [] ∧ h0.size ≤ b5_5 ∧ h0.size ≤ b2_6_5 ∧ b5_5 ≠ b2_6_5 ∧ Ex0 Z h b5_5 ∧ Fd0 Z h b5_5 (.ref b2_6_5) ∧ Fd1 Z h b5_5 z0 ∧ Arv Z h b2_6_5 k2_6_5 .byte 1 [(.int (i_1.toInt8.toInt32))] z0
theorem r16_make (l : Launch) (Z : State) (a0 : Array Value) (hw : HW Z a0) (ws : List Jvm.Cond) (i_1 i_2 i_3 i_4 : Int32) (h0 : Heap) (n0 : Nat) (Z0 : n0 ≤ h0.size) (sCS : SCS Z i_4) (O0 : Old Z n0 h0) (hp0 : ¬ (i_4 = (0 : Int32))) (hp1 : ¬ ((255 : Int32) < i_1)) :
    MF l Z y13_make b11_ 4 (some (.object "java/lang/String")) ws ⟨3, 2, 5, 39⟩ #[(.int 1), (.int i_1), (.int i_2), (.int i_3)] h0 (Q_r16_make Z i_1 i_2 i_3 i_4 h0 n0) := by
 refine own_body (plainFor_of_name pn_PaymentFrequencyUnitOfPinLaw855) (ef_8 (1 : Int32) i_1 i_2 i_3) (by decide) (by decide) ?_
 intro p e s m below meth c s₁ hx hby hml hown hnm hret hZ hh e0 X0
 have N0 := Fr.nil n0
 obtain ⟨_, T5, L5, X5, hQ5, st5⟩ := own_static X0 hx hZ hown (w87 hw) (w88 hw) (w7 hw) (w89 hw) (by decide) (r17_valueOf l Z a0 hw [] i_1 i_4 h0 n0 Z0 sCS O0 hp0 hp1) e0 (W := 0) (by decide) (g := (mkF m 21 #[vi 1, vi i_1, vi i_2, vi i_3] [(.int i_1)])) rfl hml.symm (argsL := [(.int i_1)]) (rest := []) (lenOf pd_17 rfl) rfl rfl (own_wr rfl rfl) (hb hby d155)
 obtain ⟨b5_5, b2_6_5, k2_6_5, rfl, N5q, K5, Q5_0, Q5_1, Q5_2, Q5_3, Q5_4, Q5_5, Q5_6⟩ := hQ5
 have N5 := Fr.app N0 N5q
 have C0 := (KL.refl h0 []).trans K5 na0
 refine ⟨T5, _, some (.ref b5_5), X5, (fun h => by cases h <;> rfl), ?_, fun fs hr => ?_⟩
 · show Q_r16_make Z i_1 i_2 i_3 i_4 h0 n0 _ T5.heap _
   exact ⟨b5_5, b2_6_5, k2_6_5, rfl, N5, C0, Q5_0, Q5_1, Q5_2, Q5_3, Q5_4, Q5_5, Q5_6⟩
 refine t_iloadN 1 X0.here hx hby d113 rfl rfl ?_
 refine t_ifYes (pc := 1) 15 X0.here hx hby d114 (by decide) (by decide) (by decide) ?_
 refine t_iloadN 16 X0.here hx hby d151 rfl rfl ?_
 refine t_iconst 17 (r := 1) X0.here hx hby d152 (by decide) rfl ?_
 refine t_icmpNo 20 X0.here hx hby d153 (by decide) rfl ?_
 refine t_iloadN 21 X0.here hx hby d154 rfl rfl ?_
 refine st5 _ ?_
 jvm_step X5.here [X5.here.top, hx, (hb hby d191), X5.method', hret, Value.isRef, FieldType.isReference]
 first | (intro acts; rw [hr _ acts rfl rfl rfl]) | rw [hr _ _ rfl rfl rfl]
 exact Steps.refl _
theorem d192 : decode b14_ 7 = .ok (.iconst 1, 1) := by decide +kernel
theorem d193 : decode b14_ 8 = .ok (.goto 4, 3) := by decide +kernel
def Q_r21_isPresent (Z : State) (o0 o_1 : Addr) (h0 : Heap) (n0 : Nat) (v : Option Value) (h : Heap) (L : List Loc) : Prop := v = some (.int 1) ∧ Fr n0 L ∧ h = h0
theorem r21_isPresent (l : Launch) (Z : State) (a0 : Array Value) (hw : HW Z a0) (ws : List Jvm.Cond) (o0 o_1 : Addr) (h0 : Heap) (n0 : Nat) (Z0 : n0 ≤ h0.size) (F_o0_value : Fd2 Z h0 o0 (.ref o_1)) :
    MF l Z y14_isPresent b14_ 1 (some .boolean) ws ⟨0, 0, 0, 0⟩ #[(.ref o0)] h0 (Q_r21_isPresent Z o0 o_1 h0 n0) := by
 refine own_body (plainFor_of_name pn_Optional799) (ef_3 o0) (by decide) (by decide) ?_
 intro p e s m below meth c s₁ hx hby hml hown hnm hret hZ hh e0 X0
 have N0 := Fr.nil n0
 obtain ⟨T2, X2, e2, st2⟩ := getF X0 hx hZ hown (host := "") (Or.inl (w55 hw)) Via.refl e0 F_o0_value (g := (mkF m 1 #[vr o0] [(.ref o0)])) rfl rfl (hb hby d147)
 refine ⟨T2, _, some (.int 1), X2, (fun h => by cases h <;> rfl), ?_, fun fs hr => ?_⟩
 · show Q_r21_isPresent Z o0 o_1 h0 n0 _ T2.heap _
   rw [e2]
   exact ⟨rfl, N0, rfl⟩
 refine t_aloadN 1 X0.here hx hby d146 rfl rfl rfl ?_
 refine st2 _ ?_
 refine t_ifnullNo 7 X2.here hx hby d148 rfl ?_
 refine t_iconst 8 (r := 1) X2.here hx hby d192 (by decide) rfl ?_
 refine t_goto (pc := 8) 12 X2.here hx hby d193 (by decide) (by decide) ?_
 exact retN X2 hx (t := .boolean) hret (by simp) (hb hby d150) hr
def w145 (hw : HW Z a0) := ow 145 hw rfl
def w148 (hw : HW Z a0) := ow 148 hw rfl
abbrev b19_ := jdk_32_method_5_code
theorem d194 : decode b19_ 0 = .ok (.aload_n 0, 1) := by decide +kernel
theorem d195 : decode b19_ 1 = .ok (.getfield 13, 3) := by decide +kernel
theorem d196 : decode b19_ 4 = .ok (.ifnonnull 13, 3) := by decide +kernel
theorem d197 : decode b19_ 17 = .ok (.aload_n 0, 1) := by decide +kernel
theorem d198 : decode b19_ 18 = .ok (.getfield 13, 3) := by decide +kernel
theorem d199 : decode b19_ 21 = .ok (.areturn, 1) := by decide +kernel
abbrev y19_get : MethodName := ⟨"java/util/Optional", "get", "()Ljava/lang/Object;"⟩
def Q_r22_get (Z : State) (o0 o_1 : Addr) (h0 : Heap) (n0 : Nat) (v : Option Value) (h : Heap) (L : List Loc) : Prop := v = some (.ref o_1) ∧ Fr n0 L ∧ h = h0
theorem r22_get (l : Launch) (Z : State) (a0 : Array Value) (hw : HW Z a0) (ws : List Jvm.Cond) (o0 o_1 : Addr) (h0 : Heap) (n0 : Nat) (Z0 : n0 ≤ h0.size) (F_o0_value : Fd2 Z h0 o0 (.ref o_1)) :
    MF l Z y19_get b19_ 1 (some (.object "java/lang/Object")) ws ⟨0, 0, 0, 0⟩ #[(.ref o0)] h0 (Q_r22_get Z o0 o_1 h0 n0) := by
 refine own_body (plainFor_of_name pn_Optional799) (ef_3 o0) (by decide) (by decide) ?_
 intro p e s m below meth c s₁ hx hby hml hown hnm hret hZ hh e0 X0
 have N0 := Fr.nil n0
 obtain ⟨T2, X2, e2, st2⟩ := getF X0 hx hZ hown (host := "") (Or.inl (w55 hw)) Via.refl e0 F_o0_value (g := (mkF m 1 #[vr o0] [(.ref o0)])) rfl rfl (hb hby d195)
 obtain ⟨T3, X3, e3, st3⟩ := getF X2 hx hZ hown (host := "") (Or.inl (w55 hw)) Via.refl e2 F_o0_value (g := (mkF m 18 #[vr o0] [(.ref o0)])) rfl rfl (hb hby d198)
 refine ⟨T3, _, some (.ref o_1), X3, (fun h => by cases h <;> rfl), ?_, fun fs hr => ?_⟩
 · show Q_r22_get Z o0 o_1 h0 n0 _ T3.heap _
   rw [e3]
   exact ⟨rfl, N0, rfl⟩
 refine t_aloadN 1 X0.here hx hby d194 rfl rfl rfl ?_
 refine st2 _ ?_
 refine t_ifnonnullYes (pc := 4) 17 X2.here hx hby d196 (by decide) (by decide) ?_
 refine t_aloadN 18 X2.here hx hby d197 rfl rfl rfl ?_
 refine st3 _ ?_
 jvm_step X3.here [X3.here.top, hx, (hb hby d199), X3.method', hret, Value.isRef, FieldType.isReference]
 first | (intro acts; rw [hr _ acts rfl rfl rfl]) | rw [hr _ _ rfl rfl rfl]
 exact Steps.refl _
def w149 (hw : HW Z a0) := ow 149 hw rfl
theorem pd_18 : parseMethodDescriptor "()Ljava/lang/Object;" = some ⟨[], some (.object "java/lang/Object")⟩ := by decide +kernel
def w146 (hw : HW Z a0) := ow 146 hw rfl
def w147 (hw : HW Z a0) := ow 147 hw rfl
theorem law_a1_68 (l : Launch) (Z : State) (a0 : Array Value) (hw : HW Z a0) (ws : List Jvm.Cond) (p0 p1 p2 p3 cs : Int32) (fm : Value) (st_EMPTY st_DAYS st_MONTHS st_YEARS : Addr) (h0 : Heap) (n0 : Nat) (Z0 : n0 ≤ h0.size) (ha : (own_ch p1) = (68 : Int32) ∨ (own_ch p1) = (100 : Int32)) (hcs : ¬ (cs = (0 : Int32))) (hfm : fm.isRef = true) (hln : (p0 &&& (3 : Int32)) = (1 : Int32)) (hbit : (((p0.toUInt32 >>> ((2 : Int32) &&& 31).toUInt32).toInt32) &&& (1 : Int32)) = (0 : Int32)) (sCS : SCS Z cs) (O0 : Old Z n0 h0) (S_SIOOBE_FORMATTER : Sa0 Z fm) (S_DAYS : Sa1 Z (.ref st_DAYS)) :
    LawM l Z ws p0 p1 p2 p3 h0 n0 := by
 refine own_bodyH (k := 3) (n := 6) (y := x) (Q := fun v _ L => Q_law n0 v L) (own_EW hw) (plainFor_of_name pn_PaymentFrequencyUnitOfPinLaw855) (ef_law p0 p1 p2 p3) (by decide) (by decide) ?_
 intro p e s m below meth c s₁ hx hby hml hown hnm hret hZ e0 hS0 hk0 X0 hC0 hSF0
 have N0 := Fr.nil n0
 obtain ⟨_, T1, L1, X1, hQ1, st1⟩ := own_static X0 hx hZ hown (w1 hw) (w2 hw) (w3 hw) (w4 hw) (by decide) (r16_make l Z a0 hw [] (own_ch p1) (own_ch p2) (own_ch p3) cs h0 n0 Z0 sCS O0 hcs (own_lt255 ha (by decide) (by decide))) e0 (W := 0) (by decide) (g := (mkF m 102 #[vi p0, vi p1, vi p2, vi p3, vi 1, vi ((own_ch p1)), vi ((own_ch p2)), vi ((own_ch p3)), .unset, .unset, .unset] [(.int (own_ch p3)), (.int (own_ch p2)), (.int (own_ch p1)), (.int 1)])) rfl hml.symm (argsL := [(.int 1), (.int (own_ch p1)), (.int (own_ch p2)), (.int (own_ch p3))]) (rest := []) (lenOf pd_11 rfl) rfl rfl (own_wr rfl rfl) (hb hby at_102)
 obtain ⟨b5_5_1, b2_6_5_1, k2_6_5_1, rfl, N1q, K1, Q1_0, Q1_1, Q1_2, Q1_3, Q1_4, Q1_5, Q1_6⟩ := hQ1
 have N1 := Fr.app N0 N1q
 have Ck0 := own_chK K1 na0 (CHr.refl hC0).1
 have Ah1 := (CHr.refl hC0).trans Ck0.1
 have f5 := (kOld K1 O0 na0)
 obtain ⟨_, T4, L4, X4, hQ4, st4⟩ := own_static X1 hx hZ hown (w27 hw) (w28 hw) (w29 hw) (w30 hw) (by decide) (r_un_DAYS l Z a0 hw [] b5_5_1 b2_6_5_1 ((own_ch p1).toInt8.toInt32) cs fm st_DAYS k2_6_5_1 T1.heap n0 (Nat.le_trans Z0 K1.1) (own_b2o (own_m16a p1) (own_lt255 ha (by decide) (by decide)) ha) hcs hfm Q1_3 Q1_4 Q1_6 sCS Q1_5 f5 S_SIOOBE_FORMATTER S_DAYS) rfl (W := 0) (by decide) (g := (mkF m 109 #[vi p0, vi p1, vi p2, vi p3, vi 1, vi ((own_ch p1)), vi ((own_ch p2)), vi ((own_ch p3)), vr b5_5_1, .unset, .unset] [(.ref b5_5_1)])) rfl hml.symm (argsL := [(.ref b5_5_1)]) (rest := []) (lenOf pd_12 rfl) rfl rfl (own_wr rfl rfl) (hb hby at_109)
 obtain ⟨b1_4_4, rfl, N4q, K4, Q4_0, Q4_1, Q4_2⟩ := hQ4
 have N4 := Fr.app N1 N4q
 have Ck1 := own_chK K4 na0 Ah1.1
 have Ah2 := Ah1.trans Ck1.1
 have f8 := (kOld K4 f5 na0)
 have sz_0_2 := (Nat.le_trans K1.1 K4.1)
 obtain ⟨_, T7, L7, X7, hQ7, st7⟩ := own_static X4 hx hZ hown (w47 hw) (w48 hw) (w3 hw) (w49 hw) (by decide) (r_ex_DAYS l Z a0 hw [] (own_ch p1) st_DAYS T4.heap n0 (Nat.le_trans Z0 sz_0_2) ha S_DAYS f8) rfl (W := 0) (by decide) (g := (mkF m 118 #[vi p0, vi p1, vi p2, vi p3, vi 1, vi ((own_ch p1)), vi ((own_ch p2)), vi ((own_ch p3)), vr b5_5_1, vr b1_4_4, .unset] [(.int (own_ch p1)), (.int 1)])) rfl hml.symm (argsL := [(.int 1), (.int (own_ch p1))]) (rest := []) (lenOf pd_13 rfl) rfl rfl (own_wr rfl rfl) (hb hby at_118)
 obtain ⟨rfl, N7q, e7⟩ := hQ7
 have N7 := Fr.app N4 N7q
 obtain ⟨_, T9, L9, X9, hQ9, st9⟩ := own_virtual X7 hx hZ hown (w50 hw) (w51 hw) (nfS hZ (w53 hw)) (w53 hw) (w52 hw) (w44 hw) (w54 hw) (by decide) (r21_isPresent l Z a0 hw [] b1_4_4 st_DAYS T4.heap n0 (Nat.le_trans Z0 sz_0_2) Q4_2) e7 Q4_1 (W := 0) (by decide) (g := (mkF m 144 #[vi p0, vi p1, vi p2, vi p3, vi 1, vi ((own_ch p1)), vi ((own_ch p2)), vi ((own_ch p3)), vr b5_5_1, vr b1_4_4, vr st_DAYS] [(.ref b1_4_4)])) rfl hml.symm (argsL := []) (rest := []) (lenOf pd_3 rfl) rfl rfl (own_wr rfl rfl) (hb hby at_144)
 obtain ⟨rfl, N9q, e9⟩ := hQ9
 have N9 := Fr.app N7 N9q
 obtain ⟨_, T10, L10, X10, hQ10, st10⟩ := own_virtual X9 hx hZ hown (w145 hw) (w146 hw) (nfS hZ (w148 hw)) (w148 hw) (w147 hw) (w44 hw) (w149 hw) (by decide) (r22_get l Z a0 hw [] b1_4_4 st_DAYS T4.heap n0 (Nat.le_trans Z0 sz_0_2) Q4_2) e9 Q4_1 (W := 0) (by decide) (g := (mkF m 152 #[vi p0, vi p1, vi p2, vi p3, vi 1, vi ((own_ch p1)), vi ((own_ch p2)), vi ((own_ch p3)), vr b5_5_1, vr b1_4_4, vr st_DAYS] [(.ref b1_4_4)])) rfl hml.symm (argsL := []) (rest := []) (lenOf pd_18 rfl) rfl rfl (own_wr rfl rfl) (hb hby at_152)
 obtain ⟨rfl, N10q, e10⟩ := hQ10
 have N10 := Fr.app N9 N10q
 refine ⟨T10, _, some (.int 1), _, _, X10, hS0, (by rw [e10]; exact (Nat.le_trans hk0 sz_0_2)), (fun h => by cases h <;> rfl), ?_, (by rw [e10]; exact Ah2), hZ, fun fs hr => ?_⟩
 · show Q_law n0 _ _
   exact ⟨rfl, N10⟩
 refine t_iloadN 1 X0.here hx hby at_0 rfl rfl ?_
 refine t_iconst 2 (r := 3) X0.here hx hby at_1 (by decide) rfl ?_
 refine t_iand 3 (r := 1) X0.here hx hby at_2 hln rfl ?_
 refine t_istore (pc' := 5) (L' := #[vi p0, vi p1, vi p2, vi p3, vi 1, .unset, .unset, .unset, .unset, .unset, .unset]) X0.here hx hby at_3 rfl rfl ?_
 refine t_iloadN 6 X0.here hx hby at_5 rfl rfl ?_
 refine X0.ldcInt hx hown (mvT hZ (w0 hw)) (g := (mkF m 6 #[vi p0, vi p1, vi p2, vi p3, vi 1, .unset, .unset, .unset, .unset, .unset, .unset] [(.int p1)])) rfl (hb hby at_6) _ ?_
 refine t_iand 9 (r := (own_ch p1)) X0.here hx hby at_8 (Eq.refl (own_ch p1)) rfl ?_
 refine t_i2c 10 (r := (own_ch p1)) X0.here hx hby at_9 (own_c2d (own_m16a p1) (own_m16b p1)) rfl ?_
 refine t_istore (pc' := 12) (L' := #[vi p0, vi p1, vi p2, vi p3, vi 1, vi ((own_ch p1)), .unset, .unset, .unset, .unset, .unset]) X0.here hx hby at_10 rfl rfl ?_
 refine t_iloadN 13 X0.here hx hby at_12 rfl rfl ?_
 refine t_iconst 14 (r := 2) X0.here hx hby at_13 (by decide) rfl ?_
 refine t_iushr 15 X0.here hx hby at_14 rfl rfl ?_
 refine t_iconst 16 (r := 1) X0.here hx hby at_15 (by decide) rfl ?_
 refine t_iand 17 (r := 0) X0.here hx hby at_16 hbit rfl ?_
 refine t_ifYes (pc := 17) 80 X0.here hx hby at_17 (by decide) (by decide) (by decide) ?_
 refine t_iloadN 81 X0.here hx hby at_80 rfl rfl ?_
 refine X0.ldcInt hx hown (mvT hZ (w0 hw)) (g := (mkF m 81 #[vi p0, vi p1, vi p2, vi p3, vi 1, vi ((own_ch p1)), .unset, .unset, .unset, .unset, .unset] [(.int p2)])) rfl (hb hby at_81) _ ?_
 refine t_iand 84 (r := (own_ch p2)) X0.here hx hby at_83 (Eq.refl (own_ch p2)) rfl ?_
 refine t_i2c 85 (r := (own_ch p2)) X0.here hx hby at_84 (own_c2d (own_m16a p2) (own_m16b p2)) rfl ?_
 refine t_istore (pc' := 87) (L' := #[vi p0, vi p1, vi p2, vi p3, vi 1, vi ((own_ch p1)), vi ((own_ch p2)), .unset, .unset, .unset, .unset]) X0.here hx hby at_85 rfl rfl ?_
 refine t_iloadN 88 X0.here hx hby at_87 rfl rfl ?_
 refine X0.ldcInt hx hown (mvT hZ (w0 hw)) (g := (mkF m 88 #[vi p0, vi p1, vi p2, vi p3, vi 1, vi ((own_ch p1)), vi ((own_ch p2)), .unset, .unset, .unset, .unset] [(.int p3)])) rfl (hb hby at_88) _ ?_
 refine t_iand 91 (r := (own_ch p3)) X0.here hx hby at_90 (Eq.refl (own_ch p3)) rfl ?_
 refine t_i2c 92 (r := (own_ch p3)) X0.here hx hby at_91 (own_c2d (own_m16a p3) (own_m16b p3)) rfl ?_
 refine t_istore (pc' := 94) (L' := #[vi p0, vi p1, vi p2, vi p3, vi 1, vi ((own_ch p1)), vi ((own_ch p2)), vi ((own_ch p3)), .unset, .unset, .unset]) X0.here hx hby at_92 rfl rfl ?_
 refine t_iload 96 X0.here hx hby at_94 rfl rfl ?_
 refine t_iload 98 X0.here hx hby at_96 rfl rfl ?_
 refine t_iload 100 X0.here hx hby at_98 rfl rfl ?_
 refine t_iload 102 X0.here hx hby at_100 rfl rfl ?_
 refine st1 _ ?_
 refine t_astore (pc' := 107) (L' := #[vi p0, vi p1, vi p2, vi p3, vi 1, vi ((own_ch p1)), vi ((own_ch p2)), vi ((own_ch p3)), vr b5_5_1, .unset, .unset]) X1.here hx hby at_105 rfl rfl rfl ?_
 refine t_aload 109 X1.here hx hby at_107 rfl rfl rfl ?_
 refine st4 _ ?_
 refine t_astore (pc' := 114) (L' := #[vi p0, vi p1, vi p2, vi p3, vi 1, vi ((own_ch p1)), vi ((own_ch p2)), vi ((own_ch p3)), vr b5_5_1, vr b1_4_4, .unset]) X4.here hx hby at_112 rfl rfl rfl ?_
 refine t_iload 116 X4.here hx hby at_114 rfl rfl ?_
 refine t_iload 118 X4.here hx hby at_116 rfl rfl ?_
 refine st7 _ ?_
 refine t_astore (pc' := 123) (L' := #[vi p0, vi p1, vi p2, vi p3, vi 1, vi ((own_ch p1)), vi ((own_ch p2)), vi ((own_ch p3)), vr b5_5_1, vr b1_4_4, vr st_DAYS]) X7.here hx hby at_121 rfl rfl rfl ?_
 refine t_aload 125 X7.here hx hby at_123 rfl rfl rfl ?_
 refine t_ifnonnullYes (pc := 125) 142 X7.here hx hby at_125 (by decide) (by decide) ?_
 refine t_aload 144 X7.here hx hby at_142 rfl rfl rfl ?_
 refine st9 _ ?_
 refine t_ifNo 150 X9.here hx hby at_147 (by decide) rfl ?_
 refine t_aload 152 X9.here hx hby at_150 rfl rfl rfl ?_
 refine st10 _ ?_
 refine t_aload 157 X10.here hx hby at_155 rfl rfl rfl ?_
 refine Jvm.RoadKit.acmp (g := (mkF m 157 #[vi p0, vi p1, vi p2, vi p3, vi 1, vi ((own_ch p1)), vi ((own_ch p2)), vi ((own_ch p3)), vr b5_5_1, vr b1_4_4, vr st_DAYS] [(.ref st_DAYS), (.ref st_DAYS)])) X10 hx rfl rfl rfl (pc0 := 157) (pc' := 160) (same := true) rfl (hb hby at_157) rfl (decide_eq_true rfl) (by decide) (by decide) ?_
 refine t_iconst 161 (r := 1) X10.here hx hby at_160 (by decide) rfl ?_
 refine t_goto (pc := 161) 165 X10.here hx hby at_161 (by decide) (by decide) ?_
 exact retN X10 hx (t := .boolean) hret (by simp) (hb hby at_165) hr
theorem law_a1_77 (l : Launch) (Z : State) (a0 : Array Value) (hw : HW Z a0) (ws : List Jvm.Cond) (p0 p1 p2 p3 cs : Int32) (fm : Value) (st_EMPTY st_DAYS st_MONTHS st_YEARS : Addr) (h0 : Heap) (n0 : Nat) (Z0 : n0 ≤ h0.size) (ha : (own_ch p1) = (77 : Int32) ∨ (own_ch p1) = (109 : Int32)) (hcs : ¬ (cs = (0 : Int32))) (hfm : fm.isRef = true) (hln : (p0 &&& (3 : Int32)) = (1 : Int32)) (hbit : (((p0.toUInt32 >>> ((2 : Int32) &&& 31).toUInt32).toInt32) &&& (1 : Int32)) = (0 : Int32)) (sCS : SCS Z cs) (O0 : Old Z n0 h0) (S_SIOOBE_FORMATTER : Sa0 Z fm) (S_MONTHS : Sa2 Z (.ref st_MONTHS)) :
    LawM l Z ws p0 p1 p2 p3 h0 n0 := by
 refine own_bodyH (k := 3) (n := 6) (y := x) (Q := fun v _ L => Q_law n0 v L) (own_EW hw) (plainFor_of_name pn_PaymentFrequencyUnitOfPinLaw855) (ef_law p0 p1 p2 p3) (by decide) (by decide) ?_
 intro p e s m below meth c s₁ hx hby hml hown hnm hret hZ e0 hS0 hk0 X0 hC0 hSF0
 have N0 := Fr.nil n0
 obtain ⟨_, T1, L1, X1, hQ1, st1⟩ := own_static X0 hx hZ hown (w1 hw) (w2 hw) (w3 hw) (w4 hw) (by decide) (r16_make l Z a0 hw [] (own_ch p1) (own_ch p2) (own_ch p3) cs h0 n0 Z0 sCS O0 hcs (own_lt255 ha (by decide) (by decide))) e0 (W := 0) (by decide) (g := (mkF m 102 #[vi p0, vi p1, vi p2, vi p3, vi 1, vi ((own_ch p1)), vi ((own_ch p2)), vi ((own_ch p3)), .unset, .unset, .unset] [(.int (own_ch p3)), (.int (own_ch p2)), (.int (own_ch p1)), (.int 1)])) rfl hml.symm (argsL := [(.int 1), (.int (own_ch p1)), (.int (own_ch p2)), (.int (own_ch p3))]) (rest := []) (lenOf pd_11 rfl) rfl rfl (own_wr rfl rfl) (hb hby at_102)
 obtain ⟨b5_5_1, b2_6_5_1, k2_6_5_1, rfl, N1q, K1, Q1_0, Q1_1, Q1_2, Q1_3, Q1_4, Q1_5, Q1_6⟩ := hQ1
 have N1 := Fr.app N0 N1q
 have Ck0 := own_chK K1 na0 (CHr.refl hC0).1
 have Ah1 := (CHr.refl hC0).trans Ck0.1
 have f5 := (kOld K1 O0 na0)
 obtain ⟨_, T4, L4, X4, hQ4, st4⟩ := own_static X1 hx hZ hown (w27 hw) (w28 hw) (w29 hw) (w30 hw) (by decide) (r_un_MONTHS l Z a0 hw [] b5_5_1 b2_6_5_1 ((own_ch p1).toInt8.toInt32) cs fm st_MONTHS k2_6_5_1 T1.heap n0 (Nat.le_trans Z0 K1.1) (own_b2o (own_m16a p1) (own_lt255 ha (by decide) (by decide)) ha) hcs hfm Q1_3 Q1_4 Q1_6 sCS Q1_5 f5 S_SIOOBE_FORMATTER S_MONTHS) rfl (W := 0) (by decide) (g := (mkF m 109 #[vi p0, vi p1, vi p2, vi p3, vi 1, vi ((own_ch p1)), vi ((own_ch p2)), vi ((own_ch p3)), vr b5_5_1, .unset, .unset] [(.ref b5_5_1)])) rfl hml.symm (argsL := [(.ref b5_5_1)]) (rest := []) (lenOf pd_12 rfl) rfl rfl (own_wr rfl rfl) (hb hby at_109)
 obtain ⟨b1_4_4, rfl, N4q, K4, Q4_0, Q4_1, Q4_2⟩ := hQ4
 have N4 := Fr.app N1 N4q
 have Ck1 := own_chK K4 na0 Ah1.1
 have Ah2 := Ah1.trans Ck1.1
 have f8 := (kOld K4 f5 na0)
 have sz_0_2 := (Nat.le_trans K1.1 K4.1)
 obtain ⟨_, T7, L7, X7, hQ7, st7⟩ := own_static X4 hx hZ hown (w47 hw) (w48 hw) (w3 hw) (w49 hw) (by decide) (r_ex_MONTHS l Z a0 hw [] (own_ch p1) st_MONTHS T4.heap n0 (Nat.le_trans Z0 sz_0_2) ha S_MONTHS f8) rfl (W := 0) (by decide) (g := (mkF m 118 #[vi p0, vi p1, vi p2, vi p3, vi 1, vi ((own_ch p1)), vi ((own_ch p2)), vi ((own_ch p3)), vr b5_5_1, vr b1_4_4, .unset] [(.int (own_ch p1)), (.int 1)])) rfl hml.symm (argsL := [(.int 1), (.int (own_ch p1))]) (rest := []) (lenOf pd_13 rfl) rfl rfl (own_wr rfl rfl) (hb hby at_118)
 obtain ⟨rfl, N7q, e7⟩ := hQ7
 have N7 := Fr.app N4 N7q
 obtain ⟨_, T9, L9, X9, hQ9, st9⟩ := own_virtual X7 hx hZ hown (w50 hw) (w51 hw) (nfS hZ (w53 hw)) (w53 hw) (w52 hw) (w44 hw) (w54 hw) (by decide) (r21_isPresent l Z a0 hw [] b1_4_4 st_MONTHS T4.heap n0 (Nat.le_trans Z0 sz_0_2) Q4_2) e7 Q4_1 (W := 0) (by decide) (g := (mkF m 144 #[vi p0, vi p1, vi p2, vi p3, vi 1, vi ((own_ch p1)), vi ((own_ch p2)), vi ((own_ch p3)), vr b5_5_1, vr b1_4_4, vr st_MONTHS] [(.ref b1_4_4)])) rfl hml.symm (argsL := []) (rest := []) (lenOf pd_3 rfl) rfl rfl (own_wr rfl rfl) (hb hby at_144)
 obtain ⟨rfl, N9q, e9⟩ := hQ9
 have N9 := Fr.app N7 N9q
 obtain ⟨_, T10, L10, X10, hQ10, st10⟩ := own_virtual X9 hx hZ hown (w145 hw) (w146 hw) (nfS hZ (w148 hw)) (w148 hw) (w147 hw) (w44 hw) (w149 hw) (by decide) (r22_get l Z a0 hw [] b1_4_4 st_MONTHS T4.heap n0 (Nat.le_trans Z0 sz_0_2) Q4_2) e9 Q4_1 (W := 0) (by decide) (g := (mkF m 152 #[vi p0, vi p1, vi p2, vi p3, vi 1, vi ((own_ch p1)), vi ((own_ch p2)), vi ((own_ch p3)), vr b5_5_1, vr b1_4_4, vr st_MONTHS] [(.ref b1_4_4)])) rfl hml.symm (argsL := []) (rest := []) (lenOf pd_18 rfl) rfl rfl (own_wr rfl rfl) (hb hby at_152)
 obtain ⟨rfl, N10q, e10⟩ := hQ10
 have N10 := Fr.app N9 N10q
 refine ⟨T10, _, some (.int 1), _, _, X10, hS0, (by rw [e10]; exact (Nat.le_trans hk0 sz_0_2)), (fun h => by cases h <;> rfl), ?_, (by rw [e10]; exact Ah2), hZ, fun fs hr => ?_⟩
 · show Q_law n0 _ _
   exact ⟨rfl, N10⟩
 refine t_iloadN 1 X0.here hx hby at_0 rfl rfl ?_
 refine t_iconst 2 (r := 3) X0.here hx hby at_1 (by decide) rfl ?_
 refine t_iand 3 (r := 1) X0.here hx hby at_2 hln rfl ?_
 refine t_istore (pc' := 5) (L' := #[vi p0, vi p1, vi p2, vi p3, vi 1, .unset, .unset, .unset, .unset, .unset, .unset]) X0.here hx hby at_3 rfl rfl ?_
 refine t_iloadN 6 X0.here hx hby at_5 rfl rfl ?_
 refine X0.ldcInt hx hown (mvT hZ (w0 hw)) (g := (mkF m 6 #[vi p0, vi p1, vi p2, vi p3, vi 1, .unset, .unset, .unset, .unset, .unset, .unset] [(.int p1)])) rfl (hb hby at_6) _ ?_
 refine t_iand 9 (r := (own_ch p1)) X0.here hx hby at_8 (Eq.refl (own_ch p1)) rfl ?_
 refine t_i2c 10 (r := (own_ch p1)) X0.here hx hby at_9 (own_c2d (own_m16a p1) (own_m16b p1)) rfl ?_
 refine t_istore (pc' := 12) (L' := #[vi p0, vi p1, vi p2, vi p3, vi 1, vi ((own_ch p1)), .unset, .unset, .unset, .unset, .unset]) X0.here hx hby at_10 rfl rfl ?_
 refine t_iloadN 13 X0.here hx hby at_12 rfl rfl ?_
 refine t_iconst 14 (r := 2) X0.here hx hby at_13 (by decide) rfl ?_
 refine t_iushr 15 X0.here hx hby at_14 rfl rfl ?_
 refine t_iconst 16 (r := 1) X0.here hx hby at_15 (by decide) rfl ?_
 refine t_iand 17 (r := 0) X0.here hx hby at_16 hbit rfl ?_
 refine t_ifYes (pc := 17) 80 X0.here hx hby at_17 (by decide) (by decide) (by decide) ?_
 refine t_iloadN 81 X0.here hx hby at_80 rfl rfl ?_
 refine X0.ldcInt hx hown (mvT hZ (w0 hw)) (g := (mkF m 81 #[vi p0, vi p1, vi p2, vi p3, vi 1, vi ((own_ch p1)), .unset, .unset, .unset, .unset, .unset] [(.int p2)])) rfl (hb hby at_81) _ ?_
 refine t_iand 84 (r := (own_ch p2)) X0.here hx hby at_83 (Eq.refl (own_ch p2)) rfl ?_
 refine t_i2c 85 (r := (own_ch p2)) X0.here hx hby at_84 (own_c2d (own_m16a p2) (own_m16b p2)) rfl ?_
 refine t_istore (pc' := 87) (L' := #[vi p0, vi p1, vi p2, vi p3, vi 1, vi ((own_ch p1)), vi ((own_ch p2)), .unset, .unset, .unset, .unset]) X0.here hx hby at_85 rfl rfl ?_
 refine t_iloadN 88 X0.here hx hby at_87 rfl rfl ?_
 refine X0.ldcInt hx hown (mvT hZ (w0 hw)) (g := (mkF m 88 #[vi p0, vi p1, vi p2, vi p3, vi 1, vi ((own_ch p1)), vi ((own_ch p2)), .unset, .unset, .unset, .unset] [(.int p3)])) rfl (hb hby at_88) _ ?_
 refine t_iand 91 (r := (own_ch p3)) X0.here hx hby at_90 (Eq.refl (own_ch p3)) rfl ?_
 refine t_i2c 92 (r := (own_ch p3)) X0.here hx hby at_91 (own_c2d (own_m16a p3) (own_m16b p3)) rfl ?_
 refine t_istore (pc' := 94) (L' := #[vi p0, vi p1, vi p2, vi p3, vi 1, vi ((own_ch p1)), vi ((own_ch p2)), vi ((own_ch p3)), .unset, .unset, .unset]) X0.here hx hby at_92 rfl rfl ?_
 refine t_iload 96 X0.here hx hby at_94 rfl rfl ?_
 refine t_iload 98 X0.here hx hby at_96 rfl rfl ?_
 refine t_iload 100 X0.here hx hby at_98 rfl rfl ?_
 refine t_iload 102 X0.here hx hby at_100 rfl rfl ?_
 refine st1 _ ?_
 refine t_astore (pc' := 107) (L' := #[vi p0, vi p1, vi p2, vi p3, vi 1, vi ((own_ch p1)), vi ((own_ch p2)), vi ((own_ch p3)), vr b5_5_1, .unset, .unset]) X1.here hx hby at_105 rfl rfl rfl ?_
 refine t_aload 109 X1.here hx hby at_107 rfl rfl rfl ?_
 refine st4 _ ?_
 refine t_astore (pc' := 114) (L' := #[vi p0, vi p1, vi p2, vi p3, vi 1, vi ((own_ch p1)), vi ((own_ch p2)), vi ((own_ch p3)), vr b5_5_1, vr b1_4_4, .unset]) X4.here hx hby at_112 rfl rfl rfl ?_
 refine t_iload 116 X4.here hx hby at_114 rfl rfl ?_
 refine t_iload 118 X4.here hx hby at_116 rfl rfl ?_
 refine st7 _ ?_
 refine t_astore (pc' := 123) (L' := #[vi p0, vi p1, vi p2, vi p3, vi 1, vi ((own_ch p1)), vi ((own_ch p2)), vi ((own_ch p3)), vr b5_5_1, vr b1_4_4, vr st_MONTHS]) X7.here hx hby at_121 rfl rfl rfl ?_
 refine t_aload 125 X7.here hx hby at_123 rfl rfl rfl ?_
 refine t_ifnonnullYes (pc := 125) 142 X7.here hx hby at_125 (by decide) (by decide) ?_
 refine t_aload 144 X7.here hx hby at_142 rfl rfl rfl ?_
 refine st9 _ ?_
 refine t_ifNo 150 X9.here hx hby at_147 (by decide) rfl ?_
 refine t_aload 152 X9.here hx hby at_150 rfl rfl rfl ?_
 refine st10 _ ?_
 refine t_aload 157 X10.here hx hby at_155 rfl rfl rfl ?_
 refine Jvm.RoadKit.acmp (g := (mkF m 157 #[vi p0, vi p1, vi p2, vi p3, vi 1, vi ((own_ch p1)), vi ((own_ch p2)), vi ((own_ch p3)), vr b5_5_1, vr b1_4_4, vr st_MONTHS] [(.ref st_MONTHS), (.ref st_MONTHS)])) X10 hx rfl rfl rfl (pc0 := 157) (pc' := 160) (same := true) rfl (hb hby at_157) rfl (decide_eq_true rfl) (by decide) (by decide) ?_
 refine t_iconst 161 (r := 1) X10.here hx hby at_160 (by decide) rfl ?_
 refine t_goto (pc := 161) 165 X10.here hx hby at_161 (by decide) (by decide) ?_
 exact retN X10 hx (t := .boolean) hret (by simp) (hb hby at_165) hr
theorem law_a1_89 (l : Launch) (Z : State) (a0 : Array Value) (hw : HW Z a0) (ws : List Jvm.Cond) (p0 p1 p2 p3 cs : Int32) (fm : Value) (st_EMPTY st_DAYS st_MONTHS st_YEARS : Addr) (h0 : Heap) (n0 : Nat) (Z0 : n0 ≤ h0.size) (ha : (own_ch p1) = (89 : Int32) ∨ (own_ch p1) = (121 : Int32)) (hcs : ¬ (cs = (0 : Int32))) (hfm : fm.isRef = true) (hln : (p0 &&& (3 : Int32)) = (1 : Int32)) (hbit : (((p0.toUInt32 >>> ((2 : Int32) &&& 31).toUInt32).toInt32) &&& (1 : Int32)) = (0 : Int32)) (sCS : SCS Z cs) (O0 : Old Z n0 h0) (S_SIOOBE_FORMATTER : Sa0 Z fm) (S_YEARS : Sa3 Z (.ref st_YEARS)) :
    LawM l Z ws p0 p1 p2 p3 h0 n0 := by
 refine own_bodyH (k := 3) (n := 6) (y := x) (Q := fun v _ L => Q_law n0 v L) (own_EW hw) (plainFor_of_name pn_PaymentFrequencyUnitOfPinLaw855) (ef_law p0 p1 p2 p3) (by decide) (by decide) ?_
 intro p e s m below meth c s₁ hx hby hml hown hnm hret hZ e0 hS0 hk0 X0 hC0 hSF0
 have N0 := Fr.nil n0
 obtain ⟨_, T1, L1, X1, hQ1, st1⟩ := own_static X0 hx hZ hown (w1 hw) (w2 hw) (w3 hw) (w4 hw) (by decide) (r16_make l Z a0 hw [] (own_ch p1) (own_ch p2) (own_ch p3) cs h0 n0 Z0 sCS O0 hcs (own_lt255 ha (by decide) (by decide))) e0 (W := 0) (by decide) (g := (mkF m 102 #[vi p0, vi p1, vi p2, vi p3, vi 1, vi ((own_ch p1)), vi ((own_ch p2)), vi ((own_ch p3)), .unset, .unset, .unset] [(.int (own_ch p3)), (.int (own_ch p2)), (.int (own_ch p1)), (.int 1)])) rfl hml.symm (argsL := [(.int 1), (.int (own_ch p1)), (.int (own_ch p2)), (.int (own_ch p3))]) (rest := []) (lenOf pd_11 rfl) rfl rfl (own_wr rfl rfl) (hb hby at_102)
 obtain ⟨b5_5_1, b2_6_5_1, k2_6_5_1, rfl, N1q, K1, Q1_0, Q1_1, Q1_2, Q1_3, Q1_4, Q1_5, Q1_6⟩ := hQ1
 have N1 := Fr.app N0 N1q
 have Ck0 := own_chK K1 na0 (CHr.refl hC0).1
 have Ah1 := (CHr.refl hC0).trans Ck0.1
 have f5 := (kOld K1 O0 na0)
 obtain ⟨_, T4, L4, X4, hQ4, st4⟩ := own_static X1 hx hZ hown (w27 hw) (w28 hw) (w29 hw) (w30 hw) (by decide) (r_un_YEARS l Z a0 hw [] b5_5_1 b2_6_5_1 ((own_ch p1).toInt8.toInt32) cs fm st_YEARS k2_6_5_1 T1.heap n0 (Nat.le_trans Z0 K1.1) (own_b2o (own_m16a p1) (own_lt255 ha (by decide) (by decide)) ha) hcs hfm Q1_3 Q1_4 Q1_6 sCS Q1_5 f5 S_SIOOBE_FORMATTER S_YEARS) rfl (W := 0) (by decide) (g := (mkF m 109 #[vi p0, vi p1, vi p2, vi p3, vi 1, vi ((own_ch p1)), vi ((own_ch p2)), vi ((own_ch p3)), vr b5_5_1, .unset, .unset] [(.ref b5_5_1)])) rfl hml.symm (argsL := [(.ref b5_5_1)]) (rest := []) (lenOf pd_12 rfl) rfl rfl (own_wr rfl rfl) (hb hby at_109)
 obtain ⟨b1_4_4, rfl, N4q, K4, Q4_0, Q4_1, Q4_2⟩ := hQ4
 have N4 := Fr.app N1 N4q
 have Ck1 := own_chK K4 na0 Ah1.1
 have Ah2 := Ah1.trans Ck1.1
 have f8 := (kOld K4 f5 na0)
 have sz_0_2 := (Nat.le_trans K1.1 K4.1)
 obtain ⟨_, T7, L7, X7, hQ7, st7⟩ := own_static X4 hx hZ hown (w47 hw) (w48 hw) (w3 hw) (w49 hw) (by decide) (r_ex_YEARS l Z a0 hw [] (own_ch p1) st_YEARS T4.heap n0 (Nat.le_trans Z0 sz_0_2) ha S_YEARS f8) rfl (W := 0) (by decide) (g := (mkF m 118 #[vi p0, vi p1, vi p2, vi p3, vi 1, vi ((own_ch p1)), vi ((own_ch p2)), vi ((own_ch p3)), vr b5_5_1, vr b1_4_4, .unset] [(.int (own_ch p1)), (.int 1)])) rfl hml.symm (argsL := [(.int 1), (.int (own_ch p1))]) (rest := []) (lenOf pd_13 rfl) rfl rfl (own_wr rfl rfl) (hb hby at_118)
 obtain ⟨rfl, N7q, e7⟩ := hQ7
 have N7 := Fr.app N4 N7q
 obtain ⟨_, T9, L9, X9, hQ9, st9⟩ := own_virtual X7 hx hZ hown (w50 hw) (w51 hw) (nfS hZ (w53 hw)) (w53 hw) (w52 hw) (w44 hw) (w54 hw) (by decide) (r21_isPresent l Z a0 hw [] b1_4_4 st_YEARS T4.heap n0 (Nat.le_trans Z0 sz_0_2) Q4_2) e7 Q4_1 (W := 0) (by decide) (g := (mkF m 144 #[vi p0, vi p1, vi p2, vi p3, vi 1, vi ((own_ch p1)), vi ((own_ch p2)), vi ((own_ch p3)), vr b5_5_1, vr b1_4_4, vr st_YEARS] [(.ref b1_4_4)])) rfl hml.symm (argsL := []) (rest := []) (lenOf pd_3 rfl) rfl rfl (own_wr rfl rfl) (hb hby at_144)
 obtain ⟨rfl, N9q, e9⟩ := hQ9
 have N9 := Fr.app N7 N9q
 obtain ⟨_, T10, L10, X10, hQ10, st10⟩ := own_virtual X9 hx hZ hown (w145 hw) (w146 hw) (nfS hZ (w148 hw)) (w148 hw) (w147 hw) (w44 hw) (w149 hw) (by decide) (r22_get l Z a0 hw [] b1_4_4 st_YEARS T4.heap n0 (Nat.le_trans Z0 sz_0_2) Q4_2) e9 Q4_1 (W := 0) (by decide) (g := (mkF m 152 #[vi p0, vi p1, vi p2, vi p3, vi 1, vi ((own_ch p1)), vi ((own_ch p2)), vi ((own_ch p3)), vr b5_5_1, vr b1_4_4, vr st_YEARS] [(.ref b1_4_4)])) rfl hml.symm (argsL := []) (rest := []) (lenOf pd_18 rfl) rfl rfl (own_wr rfl rfl) (hb hby at_152)
 obtain ⟨rfl, N10q, e10⟩ := hQ10
 have N10 := Fr.app N9 N10q
 refine ⟨T10, _, some (.int 1), _, _, X10, hS0, (by rw [e10]; exact (Nat.le_trans hk0 sz_0_2)), (fun h => by cases h <;> rfl), ?_, (by rw [e10]; exact Ah2), hZ, fun fs hr => ?_⟩
 · show Q_law n0 _ _
   exact ⟨rfl, N10⟩
 refine t_iloadN 1 X0.here hx hby at_0 rfl rfl ?_
 refine t_iconst 2 (r := 3) X0.here hx hby at_1 (by decide) rfl ?_
 refine t_iand 3 (r := 1) X0.here hx hby at_2 hln rfl ?_
 refine t_istore (pc' := 5) (L' := #[vi p0, vi p1, vi p2, vi p3, vi 1, .unset, .unset, .unset, .unset, .unset, .unset]) X0.here hx hby at_3 rfl rfl ?_
 refine t_iloadN 6 X0.here hx hby at_5 rfl rfl ?_
 refine X0.ldcInt hx hown (mvT hZ (w0 hw)) (g := (mkF m 6 #[vi p0, vi p1, vi p2, vi p3, vi 1, .unset, .unset, .unset, .unset, .unset, .unset] [(.int p1)])) rfl (hb hby at_6) _ ?_
 refine t_iand 9 (r := (own_ch p1)) X0.here hx hby at_8 (Eq.refl (own_ch p1)) rfl ?_
 refine t_i2c 10 (r := (own_ch p1)) X0.here hx hby at_9 (own_c2d (own_m16a p1) (own_m16b p1)) rfl ?_
 refine t_istore (pc' := 12) (L' := #[vi p0, vi p1, vi p2, vi p3, vi 1, vi ((own_ch p1)), .unset, .unset, .unset, .unset, .unset]) X0.here hx hby at_10 rfl rfl ?_
 refine t_iloadN 13 X0.here hx hby at_12 rfl rfl ?_
 refine t_iconst 14 (r := 2) X0.here hx hby at_13 (by decide) rfl ?_
 refine t_iushr 15 X0.here hx hby at_14 rfl rfl ?_
 refine t_iconst 16 (r := 1) X0.here hx hby at_15 (by decide) rfl ?_
 refine t_iand 17 (r := 0) X0.here hx hby at_16 hbit rfl ?_
 refine t_ifYes (pc := 17) 80 X0.here hx hby at_17 (by decide) (by decide) (by decide) ?_
 refine t_iloadN 81 X0.here hx hby at_80 rfl rfl ?_
 refine X0.ldcInt hx hown (mvT hZ (w0 hw)) (g := (mkF m 81 #[vi p0, vi p1, vi p2, vi p3, vi 1, vi ((own_ch p1)), .unset, .unset, .unset, .unset, .unset] [(.int p2)])) rfl (hb hby at_81) _ ?_
 refine t_iand 84 (r := (own_ch p2)) X0.here hx hby at_83 (Eq.refl (own_ch p2)) rfl ?_
 refine t_i2c 85 (r := (own_ch p2)) X0.here hx hby at_84 (own_c2d (own_m16a p2) (own_m16b p2)) rfl ?_
 refine t_istore (pc' := 87) (L' := #[vi p0, vi p1, vi p2, vi p3, vi 1, vi ((own_ch p1)), vi ((own_ch p2)), .unset, .unset, .unset, .unset]) X0.here hx hby at_85 rfl rfl ?_
 refine t_iloadN 88 X0.here hx hby at_87 rfl rfl ?_
 refine X0.ldcInt hx hown (mvT hZ (w0 hw)) (g := (mkF m 88 #[vi p0, vi p1, vi p2, vi p3, vi 1, vi ((own_ch p1)), vi ((own_ch p2)), .unset, .unset, .unset, .unset] [(.int p3)])) rfl (hb hby at_88) _ ?_
 refine t_iand 91 (r := (own_ch p3)) X0.here hx hby at_90 (Eq.refl (own_ch p3)) rfl ?_
 refine t_i2c 92 (r := (own_ch p3)) X0.here hx hby at_91 (own_c2d (own_m16a p3) (own_m16b p3)) rfl ?_
 refine t_istore (pc' := 94) (L' := #[vi p0, vi p1, vi p2, vi p3, vi 1, vi ((own_ch p1)), vi ((own_ch p2)), vi ((own_ch p3)), .unset, .unset, .unset]) X0.here hx hby at_92 rfl rfl ?_
 refine t_iload 96 X0.here hx hby at_94 rfl rfl ?_
 refine t_iload 98 X0.here hx hby at_96 rfl rfl ?_
 refine t_iload 100 X0.here hx hby at_98 rfl rfl ?_
 refine t_iload 102 X0.here hx hby at_100 rfl rfl ?_
 refine st1 _ ?_
 refine t_astore (pc' := 107) (L' := #[vi p0, vi p1, vi p2, vi p3, vi 1, vi ((own_ch p1)), vi ((own_ch p2)), vi ((own_ch p3)), vr b5_5_1, .unset, .unset]) X1.here hx hby at_105 rfl rfl rfl ?_
 refine t_aload 109 X1.here hx hby at_107 rfl rfl rfl ?_
 refine st4 _ ?_
 refine t_astore (pc' := 114) (L' := #[vi p0, vi p1, vi p2, vi p3, vi 1, vi ((own_ch p1)), vi ((own_ch p2)), vi ((own_ch p3)), vr b5_5_1, vr b1_4_4, .unset]) X4.here hx hby at_112 rfl rfl rfl ?_
 refine t_iload 116 X4.here hx hby at_114 rfl rfl ?_
 refine t_iload 118 X4.here hx hby at_116 rfl rfl ?_
 refine st7 _ ?_
 refine t_astore (pc' := 123) (L' := #[vi p0, vi p1, vi p2, vi p3, vi 1, vi ((own_ch p1)), vi ((own_ch p2)), vi ((own_ch p3)), vr b5_5_1, vr b1_4_4, vr st_YEARS]) X7.here hx hby at_121 rfl rfl rfl ?_
 refine t_aload 125 X7.here hx hby at_123 rfl rfl rfl ?_
 refine t_ifnonnullYes (pc := 125) 142 X7.here hx hby at_125 (by decide) (by decide) ?_
 refine t_aload 144 X7.here hx hby at_142 rfl rfl rfl ?_
 refine st9 _ ?_
 refine t_ifNo 150 X9.here hx hby at_147 (by decide) rfl ?_
 refine t_aload 152 X9.here hx hby at_150 rfl rfl rfl ?_
 refine st10 _ ?_
 refine t_aload 157 X10.here hx hby at_155 rfl rfl rfl ?_
 refine Jvm.RoadKit.acmp (g := (mkF m 157 #[vi p0, vi p1, vi p2, vi p3, vi 1, vi ((own_ch p1)), vi ((own_ch p2)), vi ((own_ch p3)), vr b5_5_1, vr b1_4_4, vr st_YEARS] [(.ref st_YEARS), (.ref st_YEARS)])) X10 hx rfl rfl rfl (pc0 := 157) (pc' := 160) (same := true) rfl (hb hby at_157) rfl (decide_eq_true rfl) (by decide) (by decide) ?_
 refine t_iconst 161 (r := 1) X10.here hx hby at_160 (by decide) rfl ?_
 refine t_goto (pc := 161) 165 X10.here hx hby at_161 (by decide) (by decide) ?_
 exact retN X10 hx (t := .boolean) hret (by simp) (hb hby at_165) hr
theorem d200 : decode b2_ 90 = .ok (.aconst_null, 1) := by decide +kernel
def Q_r23_unitOf (Z : State) (o0 o_1 : Addr) (i_2 : Int32) (k_o_1 : ClassId) (i_3 : Int32) (u_5 : Value) (o_7 : Addr) (h0 : Heap) (n0 : Nat) (v : Option Value) (h : Heap) (L : List Loc) : Prop := v = some (.ref o_7) ∧ Fr n0 L ∧ h = h0
theorem r23_unitOf (l : Launch) (Z : State) (a0 : Array Value) (hw : HW Z a0) (ws : List Jvm.Cond) (o0 o_1 : Addr) (i_2 : Int32) (k_o_1 : ClassId) (i_3 : Int32) (u_5 : Value) (o_7 : Addr) (h0 : Heap) (n0 : Nat) (Z0 : n0 ≤ h0.size) (E_o0 : Ex0 Z h0 o0) (F_o0_value : Fd0 Z h0 o0 (.ref o_1)) (V_o_1 : Arv Z h0 o_1 k_o_1 .byte 1 [(.int i_2)] z0) (sCS : SCS Z i_3) (F_o0_coder : Fd1 Z h0 o0 z0) (O0 : Old Z n0 h0) (hp0 : ¬ (i_3 = (0 : Int32))) (S_SIOOBE_FORMATTER : Sa0 Z u_5) (hp1 : u_5.isRef = true) (hp2 : ¬ ((i_2 &&& (255 : Int32)) = (68 : Int32))) (hp3 : ¬ ((i_2 &&& (255 : Int32)) = (77 : Int32))) (hp4 : ¬ ((i_2 &&& (255 : Int32)) = (89 : Int32))) (hp5 : ¬ ((i_2 &&& (255 : Int32)) = (100 : Int32))) (hp6 : ¬ ((i_2 &&& (255 : Int32)) = (109 : Int32))) (hp7 : ¬ ((i_2 &&& (255 : Int32)) = (121 : Int32))) (S_EMPTY : Sa4 Z (.ref o_7)) :
    MF l Z y9_unitOf b2_ 2 (some (.object "java/util/Optional")) ws ⟨4, 0, 0, 53⟩ #[(.ref o0)] h0 (Q_r23_unitOf Z o0 o_1 i_2 k_o_1 i_3 u_5 o_7 h0 n0) := by
 refine own_body (plainFor_of_name pn_PaymentFrequency668) (ef_6 o0) (by decide) (by decide) ?_
 intro p e s m below meth c s₁ hx hby hml hown hnm hret hZ hh e0 X0
 have N0 := Fr.nil n0
 obtain ⟨_, T4, L4, X4, hQ4, st4⟩ := own_virtual X0 hx hZ hown (w31 hw) (w32 hw) (nfS hZ (w34 hw)) (w34 hw) (w33 hw) (w7 hw) (w35 hw) (by decide) (r1_length l Z a0 hw [] o0 o_1 i_2 k_o_1 i_3 h0 n0 Z0 F_o0_value V_o_1 E_o0 sCS F_o0_coder O0 hp0) e0 E_o0 (W := 0) (by decide) (g := (mkF m 3 #[vr o0, .val .null] [(.ref o0)])) rfl hml.symm (argsL := []) (rest := []) (lenOf pd_2 rfl) rfl rfl (own_wr rfl rfl) (hb hby d16)
 obtain ⟨rfl, N4q, e4⟩ := hQ4
 have N4 := Fr.app N0 N4q
 obtain ⟨_, T6, L6, X6, hQ6, st6⟩ := own_virtual X4 hx hZ hown (w101 hw) (w102 hw) (nfS hZ (w104 hw)) (w104 hw) (w103 hw) (w7 hw) (w105 hw) (by decide) (r3_charAt l Z a0 hw [] o0 i_3 o_1 i_2 k_o_1 u_5 h0 n0 Z0 E_o0 sCS F_o0_coder O0 hp0 F_o0_value V_o_1 S_SIOOBE_FORMATTER hp1) e4 E_o0 (W := 0) (by decide) (g := (mkF m 12 #[vr o0, .val .null] [z0, (.ref o0)])) rfl hml.symm (argsL := [z0]) (rest := []) (lenOf pd_6 rfl) rfl rfl (own_wr rfl rfl) (hb hby d34)
 obtain ⟨rfl, N6q, e6⟩ := hQ6
 have N6 := Fr.app N4 N6q
 obtain ⟨_, T8, L8, X8, hQ8, st8⟩ := own_static X6 hx hZ hown (w42 hw) (w43 hw) (w44 hw) (w45 hw) (by decide) (r13_ofNullable l Z a0 hw [] o_7 h0 n0 Z0 S_EMPTY O0) e6 (W := 0) (by decide) (g := (mkF m 93 #[vr o0, .val .null] [.null])) rfl hml.symm (argsL := [.null]) (rest := []) (lenOf pd_8 rfl) rfl rfl (own_wr rfl rfl) (hb hby d67)
 obtain ⟨rfl, N8q, e8⟩ := hQ8
 have N8 := Fr.app N6 N8q
 refine ⟨T8, _, some (.ref o_7), X8, (fun h => by cases h <;> rfl), ?_, fun fs hr => ?_⟩
 · show Q_r23_unitOf Z o0 o_1 i_2 k_o_1 i_3 u_5 o_7 h0 n0 _ T8.heap _
   rw [e8]
   exact ⟨rfl, N8, rfl⟩
 refine t_aconst_null 1 X0.here hx hby d13 rfl ?_
 refine t_astoreN (pc' := 2) (L' := #[vr o0, .val .null]) X0.here hx hby d14 rfl rfl rfl ?_
 refine t_aloadN 3 X0.here hx hby d15 rfl rfl rfl ?_
 refine st4 _ ?_
 refine t_iconst 7 (r := 1) X4.here hx hby d30 (by decide) rfl ?_
 refine t_icmpNo 10 X4.here hx hby d31 (by decide) rfl ?_
 refine t_aloadN 11 X4.here hx hby d32 rfl rfl rfl ?_
 refine t_iconst 12 (r := 0) X4.here hx hby d33 (by decide) rfl ?_
 refine st6 _ ?_
 refine own_lswM (pc := 15) (pc' := 90) X6 hx (hb hby d62) (by decide) (own_lsn6 hp2 hp3 hp4 hp5 hp6 hp7 rfl rfl rfl rfl rfl rfl) (by decide) (by decide) ?_
 refine t_aconst_null 91 X6.here hx hby d200 rfl ?_
 refine t_astoreN (pc' := 92) (L' := #[vr o0, .val .null]) X6.here hx hby d65 rfl rfl rfl ?_
 refine t_aloadN 93 X6.here hx hby d66 rfl rfl rfl ?_
 refine st8 _ ?_
 jvm_step X8.here [X8.here.top, hx, (hb hby d81), X8.method', hret, Value.isRef, FieldType.isReference]
 first | (intro acts; rw [hr _ acts rfl rfl rfl]) | rw [hr _ _ rfl rfl rfl]
 exact Steps.refl _
theorem d201 : decode b10_ 55 = .ok (.aconst_null, 1) := by decide +kernel
theorem d202 : decode b10_ 56 = .ok (.areturn, 1) := by decide +kernel
def Q_r24_expected (Z : State) (i_1 : Int32) (h0 : Heap) (n0 : Nat) (v : Option Value) (h : Heap) (L : List Loc) : Prop := v = some .null ∧ Fr n0 L ∧ h = h0
theorem r24_expected (l : Launch) (Z : State) (a0 : Array Value) (hw : HW Z a0) (ws : List Jvm.Cond) (i_1 : Int32) (h0 : Heap) (n0 : Nat) (Z0 : n0 ≤ h0.size) (hp0 : ¬ (i_1 = (68 : Int32))) (hp1 : ¬ (i_1 = (100 : Int32))) (hp2 : ¬ (i_1 = (77 : Int32))) (hp3 : ¬ (i_1 = (109 : Int32))) (hp4 : ¬ (i_1 = (89 : Int32))) (hp5 : ¬ (i_1 = (121 : Int32))) :
    MF l Z y10_expected b10_ 2 (some (.object "java/time/temporal/ChronoUnit")) ws ⟨0, 0, 0, 0⟩ #[(.int 1), (.int i_1)] h0 (Q_r24_expected Z i_1 h0 n0) := by
 refine own_body (plainFor_of_name pn_PaymentFrequencyUnitOfPinLaw855) (ef_2 (1 : Int32) i_1) (by decide) (by decide) ?_
 intro p e s m below meth c s₁ hx hby hml hown hnm hret hZ hh e0 X0
 have N0 := Fr.nil n0
 refine ⟨s₁, _, some .null, X0, (fun h => by cases h <;> rfl), ?_, fun fs hr => ?_⟩
 · show Q_r24_expected Z i_1 h0 n0 _ s₁.heap _
   rw [e0]
   exact ⟨rfl, N0, rfl⟩
 refine t_iloadN 1 X0.here hx hby d82 rfl rfl ?_
 refine t_iconst 2 (r := 1) X0.here hx hby d83 (by decide) rfl ?_
 refine t_icmpYes (pc := 2) 7 X0.here hx hby d84 (by decide) (by decide) (by decide) ?_
 refine t_iloadN 8 X0.here hx hby d85 rfl rfl ?_
 refine t_bipush 10 (r := 68) X0.here hx hby d86 (by decide) rfl ?_
 refine t_icmpNo 13 X0.here hx hby d87 (feq hp0).1 rfl ?_
 refine t_iloadN 14 X0.here hx hby d90 rfl rfl ?_
 refine t_bipush 16 (r := 100) X0.here hx hby d91 (by decide) rfl ?_
 refine t_icmpYes (pc := 16) 23 X0.here hx hby d92 (feq hp1).2 (by decide) (by decide) ?_
 refine t_iloadN 24 X0.here hx hby d95 rfl rfl ?_
 refine t_bipush 26 (r := 77) X0.here hx hby d96 (by decide) rfl ?_
 refine t_icmpNo 29 X0.here hx hby d97 (feq hp2).1 rfl ?_
 refine t_iloadN 30 X0.here hx hby d100 rfl rfl ?_
 refine t_bipush 32 (r := 109) X0.here hx hby d101 (by decide) rfl ?_
 refine t_icmpYes (pc := 32) 39 X0.here hx hby d102 (feq hp3).2 (by decide) (by decide) ?_
 refine t_iloadN 40 X0.here hx hby d105 rfl rfl ?_
 refine t_bipush 42 (r := 89) X0.here hx hby d106 (by decide) rfl ?_
 refine t_icmpNo 45 X0.here hx hby d107 (feq hp4).1 rfl ?_
 refine t_iloadN 46 X0.here hx hby d110 rfl rfl ?_
 refine t_bipush 48 (r := 121) X0.here hx hby d111 (by decide) rfl ?_
 refine t_icmpYes (pc := 48) 55 X0.here hx hby d112 (feq hp5).2 (by decide) (by decide) ?_
 refine t_aconst_null 56 X0.here hx hby d201 rfl ?_
 jvm_step X0.here [X0.here.top, hx, (hb hby d202), X0.method', hret, Value.isRef, FieldType.isReference]
 first | (intro acts; rw [hr _ acts rfl rfl rfl]) | rw [hr _ _ rfl rfl rfl]
 exact Steps.refl _
theorem law_a1_s (l : Launch) (Z : State) (a0 : Array Value) (hw : HW Z a0) (ws : List Jvm.Cond) (p0 p1 p2 p3 cs : Int32) (fm : Value) (st_EMPTY st_DAYS st_MONTHS st_YEARS : Addr) (h0 : Heap) (n0 : Nat) (Z0 : n0 ≤ h0.size) (hn68 : ¬ ((own_ch p1) = (68 : Int32))) (hn77 : ¬ ((own_ch p1) = (77 : Int32))) (hn89 : ¬ ((own_ch p1) = (89 : Int32))) (hn100 : ¬ ((own_ch p1) = (100 : Int32))) (hn109 : ¬ ((own_ch p1) = (109 : Int32))) (hn121 : ¬ ((own_ch p1) = (121 : Int32))) (ha : ¬ ((255 : Int32) < (own_ch p1))) (hcs : ¬ (cs = (0 : Int32))) (hfm : fm.isRef = true) (hln : (p0 &&& (3 : Int32)) = (1 : Int32)) (hbit : (((p0.toUInt32 >>> ((2 : Int32) &&& 31).toUInt32).toInt32) &&& (1 : Int32)) = (0 : Int32)) (sCS : SCS Z cs) (O0 : Old Z n0 h0) (S_SIOOBE_FORMATTER : Sa0 Z fm) (S_EMPTY : Sa4 Z (.ref st_EMPTY)) (E_st_EMPTY : Ex1 Z h0 st_EMPTY) (F_st_EMPTY_value : Fd2 Z h0 st_EMPTY .null) :
    LawM l Z ws p0 p1 p2 p3 h0 n0 := by
 refine own_bodyH (k := 2) (n := 5) (y := x) (Q := fun v _ L => Q_law n0 v L) (own_EW hw) (plainFor_of_name pn_PaymentFrequencyUnitOfPinLaw855) (ef_law p0 p1 p2 p3) (by decide) (by decide) ?_
 intro p e s m below meth c s₁ hx hby hml hown hnm hret hZ e0 hS0 hk0 X0 hC0 hSF0
 have N0 := Fr.nil n0
 obtain ⟨_, T1, L1, X1, hQ1, st1⟩ := own_static X0 hx hZ hown (w1 hw) (w2 hw) (w3 hw) (w4 hw) (by decide) (r16_make l Z a0 hw [] (own_ch p1) (own_ch p2) (own_ch p3) cs h0 n0 Z0 sCS O0 hcs ha) e0 (W := 0) (by decide) (g := (mkF m 102 #[vi p0, vi p1, vi p2, vi p3, vi 1, vi ((own_ch p1)), vi ((own_ch p2)), vi ((own_ch p3)), .unset, .unset, .unset] [(.int (own_ch p3)), (.int (own_ch p2)), (.int (own_ch p1)), (.int 1)])) rfl hml.symm (argsL := [(.int 1), (.int (own_ch p1)), (.int (own_ch p2)), (.int (own_ch p3))]) (rest := []) (lenOf pd_11 rfl) rfl rfl (own_wr rfl rfl) (hb hby at_102)
 obtain ⟨b5_5_1, b2_6_5_1, k2_6_5_1, rfl, N1q, K1, Q1_0, Q1_1, Q1_2, Q1_3, Q1_4, Q1_5, Q1_6⟩ := hQ1
 have N1 := Fr.app N0 N1q
 have Ck0 := own_chK K1 na0 (CHr.refl hC0).1
 have Ah1 := (CHr.refl hC0).trans Ck0.1
 have f5 := (kOld K1 O0 na0)
 obtain ⟨_, T4, L4, X4, hQ4, st4⟩ := own_static X1 hx hZ hown (w27 hw) (w28 hw) (w29 hw) (w30 hw) (by decide) (r23_unitOf l Z a0 hw [] b5_5_1 b2_6_5_1 ((own_ch p1).toInt8.toInt32) k2_6_5_1 cs fm st_EMPTY T1.heap n0 (Nat.le_trans Z0 K1.1) Q1_3 Q1_4 Q1_6 sCS Q1_5 f5 hcs S_SIOOBE_FORMATTER hfm (own_b2cN (own_m16a p1) ha hn68) (own_b2cN (own_m16a p1) ha hn77) (own_b2cN (own_m16a p1) ha hn89) (own_b2cN (own_m16a p1) ha hn100) (own_b2cN (own_m16a p1) ha hn109) (own_b2cN (own_m16a p1) ha hn121) S_EMPTY) rfl (W := 0) (by decide) (g := (mkF m 109 #[vi p0, vi p1, vi p2, vi p3, vi 1, vi ((own_ch p1)), vi ((own_ch p2)), vi ((own_ch p3)), vr b5_5_1, .unset, .unset] [(.ref b5_5_1)])) rfl hml.symm (argsL := [(.ref b5_5_1)]) (rest := []) (lenOf pd_12 rfl) rfl rfl (own_wr rfl rfl) (hb hby at_109)
 obtain ⟨rfl, N4q, e4⟩ := hQ4
 have N4 := Fr.app N1 N4q
 obtain ⟨_, T6, L6, X6, hQ6, st6⟩ := own_static X4 hx hZ hown (w47 hw) (w48 hw) (w3 hw) (w49 hw) (by decide) (r24_expected l Z a0 hw [] (own_ch p1) T1.heap n0 (Nat.le_trans Z0 K1.1) hn68 hn100 hn77 hn109 hn89 hn121) e4 (W := 0) (by decide) (g := (mkF m 118 #[vi p0, vi p1, vi p2, vi p3, vi 1, vi ((own_ch p1)), vi ((own_ch p2)), vi ((own_ch p3)), vr b5_5_1, vr st_EMPTY, .unset] [(.int (own_ch p1)), (.int 1)])) rfl hml.symm (argsL := [(.int 1), (.int (own_ch p1))]) (rest := []) (lenOf pd_13 rfl) rfl rfl (own_wr rfl rfl) (hb hby at_118)
 obtain ⟨rfl, N6q, e6⟩ := hQ6
 have N6 := Fr.app N4 N6q
 have f8 := (kFld K1 F_st_EMPTY_value nw0)
 have f9 := (kExa K1 E_st_EMPTY)
 obtain ⟨_, T7, L7, X7, hQ7, st7⟩ := own_virtual X6 hx hZ hown (w50 hw) (w51 hw) (nfS hZ (w53 hw)) (w53 hw) (w52 hw) (w44 hw) (w54 hw) (by decide) (r15_isPresent l Z a0 hw [] st_EMPTY T1.heap n0 (Nat.le_trans Z0 K1.1) f8) e6 f9 (W := 0) (by decide) (g := (mkF m 130 #[vi p0, vi p1, vi p2, vi p3, vi 1, vi ((own_ch p1)), vi ((own_ch p2)), vi ((own_ch p3)), vr b5_5_1, vr st_EMPTY, .val .null] [(.ref st_EMPTY)])) rfl hml.symm (argsL := []) (rest := []) (lenOf pd_3 rfl) rfl rfl (own_wr rfl rfl) (hb hby at_130)
 obtain ⟨rfl, N7q, e7⟩ := hQ7
 have N7 := Fr.app N6 N7q
 refine ⟨T7, _, some (.int 1), _, _, X7, hS0, (by rw [e7]; exact (Nat.le_trans hk0 K1.1)), (fun h => by cases h <;> rfl), ?_, (by rw [e7]; exact Ah1), hZ, fun fs hr => ?_⟩
 · show Q_law n0 _ _
   exact ⟨rfl, N7⟩
 refine t_iloadN 1 X0.here hx hby at_0 rfl rfl ?_
 refine t_iconst 2 (r := 3) X0.here hx hby at_1 (by decide) rfl ?_
 refine t_iand 3 (r := 1) X0.here hx hby at_2 hln rfl ?_
 refine t_istore (pc' := 5) (L' := #[vi p0, vi p1, vi p2, vi p3, vi 1, .unset, .unset, .unset, .unset, .unset, .unset]) X0.here hx hby at_3 rfl rfl ?_
 refine t_iloadN 6 X0.here hx hby at_5 rfl rfl ?_
 refine X0.ldcInt hx hown (mvT hZ (w0 hw)) (g := (mkF m 6 #[vi p0, vi p1, vi p2, vi p3, vi 1, .unset, .unset, .unset, .unset, .unset, .unset] [(.int p1)])) rfl (hb hby at_6) _ ?_
 refine t_iand 9 (r := (own_ch p1)) X0.here hx hby at_8 (Eq.refl (own_ch p1)) rfl ?_
 refine t_i2c 10 (r := (own_ch p1)) X0.here hx hby at_9 (own_c2d (own_m16a p1) (own_m16b p1)) rfl ?_
 refine t_istore (pc' := 12) (L' := #[vi p0, vi p1, vi p2, vi p3, vi 1, vi ((own_ch p1)), .unset, .unset, .unset, .unset, .unset]) X0.here hx hby at_10 rfl rfl ?_
 refine t_iloadN 13 X0.here hx hby at_12 rfl rfl ?_
 refine t_iconst 14 (r := 2) X0.here hx hby at_13 (by decide) rfl ?_
 refine t_iushr 15 X0.here hx hby at_14 rfl rfl ?_
 refine t_iconst 16 (r := 1) X0.here hx hby at_15 (by decide) rfl ?_
 refine t_iand 17 (r := 0) X0.here hx hby at_16 hbit rfl ?_
 refine t_ifYes (pc := 17) 80 X0.here hx hby at_17 (by decide) (by decide) (by decide) ?_
 refine t_iloadN 81 X0.here hx hby at_80 rfl rfl ?_
 refine X0.ldcInt hx hown (mvT hZ (w0 hw)) (g := (mkF m 81 #[vi p0, vi p1, vi p2, vi p3, vi 1, vi ((own_ch p1)), .unset, .unset, .unset, .unset, .unset] [(.int p2)])) rfl (hb hby at_81) _ ?_
 refine t_iand 84 (r := (own_ch p2)) X0.here hx hby at_83 (Eq.refl (own_ch p2)) rfl ?_
 refine t_i2c 85 (r := (own_ch p2)) X0.here hx hby at_84 (own_c2d (own_m16a p2) (own_m16b p2)) rfl ?_
 refine t_istore (pc' := 87) (L' := #[vi p0, vi p1, vi p2, vi p3, vi 1, vi ((own_ch p1)), vi ((own_ch p2)), .unset, .unset, .unset, .unset]) X0.here hx hby at_85 rfl rfl ?_
 refine t_iloadN 88 X0.here hx hby at_87 rfl rfl ?_
 refine X0.ldcInt hx hown (mvT hZ (w0 hw)) (g := (mkF m 88 #[vi p0, vi p1, vi p2, vi p3, vi 1, vi ((own_ch p1)), vi ((own_ch p2)), .unset, .unset, .unset, .unset] [(.int p3)])) rfl (hb hby at_88) _ ?_
 refine t_iand 91 (r := (own_ch p3)) X0.here hx hby at_90 (Eq.refl (own_ch p3)) rfl ?_
 refine t_i2c 92 (r := (own_ch p3)) X0.here hx hby at_91 (own_c2d (own_m16a p3) (own_m16b p3)) rfl ?_
 refine t_istore (pc' := 94) (L' := #[vi p0, vi p1, vi p2, vi p3, vi 1, vi ((own_ch p1)), vi ((own_ch p2)), vi ((own_ch p3)), .unset, .unset, .unset]) X0.here hx hby at_92 rfl rfl ?_
 refine t_iload 96 X0.here hx hby at_94 rfl rfl ?_
 refine t_iload 98 X0.here hx hby at_96 rfl rfl ?_
 refine t_iload 100 X0.here hx hby at_98 rfl rfl ?_
 refine t_iload 102 X0.here hx hby at_100 rfl rfl ?_
 refine st1 _ ?_
 refine t_astore (pc' := 107) (L' := #[vi p0, vi p1, vi p2, vi p3, vi 1, vi ((own_ch p1)), vi ((own_ch p2)), vi ((own_ch p3)), vr b5_5_1, .unset, .unset]) X1.here hx hby at_105 rfl rfl rfl ?_
 refine t_aload 109 X1.here hx hby at_107 rfl rfl rfl ?_
 refine st4 _ ?_
 refine t_astore (pc' := 114) (L' := #[vi p0, vi p1, vi p2, vi p3, vi 1, vi ((own_ch p1)), vi ((own_ch p2)), vi ((own_ch p3)), vr b5_5_1, vr st_EMPTY, .unset]) X4.here hx hby at_112 rfl rfl rfl ?_
 refine t_iload 116 X4.here hx hby at_114 rfl rfl ?_
 refine t_iload 118 X4.here hx hby at_116 rfl rfl ?_
 refine st6 _ ?_
 refine t_astore (pc' := 123) (L' := #[vi p0, vi p1, vi p2, vi p3, vi 1, vi ((own_ch p1)), vi ((own_ch p2)), vi ((own_ch p3)), vr b5_5_1, vr st_EMPTY, .val .null]) X6.here hx hby at_121 rfl rfl rfl ?_
 refine t_aload 125 X6.here hx hby at_123 rfl rfl rfl ?_
 refine t_ifnonnullNo 128 X6.here hx hby at_125 rfl ?_
 refine t_aload 130 X6.here hx hby at_128 rfl rfl rfl ?_
 refine st7 _ ?_
 refine t_ifNo 136 X7.here hx hby at_133 (by decide) rfl ?_
 refine t_iconst 137 (r := 1) X7.here hx hby at_136 (by decide) rfl ?_
 refine t_goto (pc := 137) 141 X7.here hx hby at_137 (by decide) (by decide) ?_
 exact retN X7 hx (t := .boolean) hret (by simp) (hb hby at_141) hr
theorem d203 : decode b16_ 11 = .ok (.iconst 0, 1) := by decide +kernel
def Q_r27_canEncode (Z : State) (i_1 : Int32) (h0 : Heap) (n0 : Nat) (v : Option Value) (h : Heap) (L : List Loc) : Prop := v = some z0 ∧ Fr n0 L ∧ h = h0
theorem r27_canEncode (l : Launch) (Z : State) (a0 : Array Value) (hw : HW Z a0) (ws : List Jvm.Cond) (i_1 : Int32) (h0 : Heap) (n0 : Nat) (Z0 : n0 ≤ h0.size) (hp0 : (255 : Int32) < i_1) :
    MF l Z y15_canEncode b16_ 1 (some .boolean) ws ⟨0, 0, 0, 0⟩ #[(.int i_1)] h0 (Q_r27_canEncode Z i_1 h0 n0) := by
 refine own_body (plainFor_of_name pn_StringLatin1120) (ef_10 i_1) (by decide) (by decide) ?_
 intro p e s m below meth c s₁ hx hby hml hown hnm hret hZ hh e0 X0
 have N0 := Fr.nil n0
 refine ⟨s₁, _, some z0, X0, (fun h => by cases h <;> rfl), ?_, fun fs hr => ?_⟩
 · show Q_r27_canEncode Z i_1 h0 n0 _ s₁.heap _
   rw [e0]
   exact ⟨rfl, N0, rfl⟩
 refine t_iloadN 1 X0.here hx hby d160 rfl rfl ?_
 refine t_sipush 4 (r := 255) X0.here hx hby d161 (by decide) rfl ?_
 refine t_icmpYes (pc := 4) 11 X0.here hx hby d162 (tlt hp0).2.2.1 (by decide) (by decide) ?_
 refine t_iconst 12 (r := 0) X0.here hx hby d203 (by decide) rfl ?_
 exact retN X0 hx (t := .boolean) hret (by simp) (hb hby d165) hr
theorem d204 : decode b15_ 26 = .ok (.new 10, 3) := by decide +kernel
theorem d205 : decode b15_ 29 = .ok (.dup, 1) := by decide +kernel
theorem d206 : decode b15_ 30 = .ok (.iload_n 0, 1) := by decide +kernel
theorem d207 : decode b15_ 31 = .ok (.invokestatic 1021, 3) := by decide +kernel
def w122 (hw : HW Z a0) := ow 122 hw rfl
abbrev b20_ := jdk_52_method_24_code
theorem d208 : decode b20_ 0 = .ok (.iconst 2, 1) := by decide +kernel
theorem d209 : decode b20_ 1 = .ok (.newarray .byte, 2) := by decide +kernel
theorem d210 : decode b20_ 3 = .ok (.astore_n 1, 1) := by decide +kernel
theorem d211 : decode b20_ 4 = .ok (.aload_n 1, 1) := by decide +kernel
theorem d212 : decode b20_ 5 = .ok (.iconst 0, 1) := by decide +kernel
theorem d213 : decode b20_ 6 = .ok (.iload_n 0, 1) := by decide +kernel
theorem d214 : decode b20_ 7 = .ok (.invokestatic 111, 3) := by decide +kernel
def w78 (hw : HW Z a0) := ow 78 hw rfl
abbrev b21_ := jdk_52_method_4_code
theorem d215 : decode b21_ 0 = .ok (.getstatic 44, 3) := by decide +kernel
def w81 (hw : HW Z a0) := ow 81 hw rfl
theorem d216 : decode b21_ 3 = .ok (.ifCond .ne 25, 3) := by decide +kernel
theorem d217 : decode b21_ 28 = .ok (.iload_n 1, 1) := by decide +kernel
theorem d218 : decode b21_ 29 = .ok (.iconst 1, 1) := by decide +kernel
theorem d219 : decode b21_ 30 = .ok (.ishl, 1) := by decide +kernel
theorem d220 : decode b21_ 31 = .ok (.istore_n 1, 1) := by decide +kernel
theorem d221 : decode b21_ 32 = .ok (.aload_n 0, 1) := by decide +kernel
theorem d222 : decode b21_ 33 = .ok (.iload_n 1, 1) := by decide +kernel
theorem d223 : decode b21_ 34 = .ok (.iinc 1 1, 3) := by decide +kernel
theorem d224 : decode b21_ 37 = .ok (.iload_n 2, 1) := by decide +kernel
theorem d225 : decode b21_ 38 = .ok (.getstatic 59, 3) := by decide +kernel
def w82 (hw : HW Z a0) := ow 82 hw rfl
theorem d226 : decode b21_ 41 = .ok (.ishr, 1) := by decide +kernel
theorem d227 : decode b21_ 42 = .ok (.i2b, 1) := by decide +kernel
theorem d228 : decode b21_ 43 = .ok (.bastore, 1) := by decide +kernel
theorem d229 : decode b21_ 44 = .ok (.aload_n 0, 1) := by decide +kernel
theorem d230 : decode b21_ 45 = .ok (.iload_n 1, 1) := by decide +kernel
theorem d231 : decode b21_ 46 = .ok (.iload_n 2, 1) := by decide +kernel
theorem d232 : decode b21_ 47 = .ok (.getstatic 63, 3) := by decide +kernel
def w83 (hw : HW Z a0) := ow 83 hw rfl
theorem d233 : decode b21_ 50 = .ok (.ishr, 1) := by decide +kernel
theorem d234 : decode b21_ 51 = .ok (.i2b, 1) := by decide +kernel
theorem d235 : decode b21_ 52 = .ok (.bastore, 1) := by decide +kernel
theorem d236 : decode b21_ 53 = .ok (.return_, 1) := by decide +kernel
theorem ef_12 (x0 : Addr) (x1 x2 : Int32) (m : MethodId) : entryFrame m #[(.ref x0), (.int x1), (.int x2)] 3 = mkF m 0 #[.val (.ref x0), .val (.int x1), .val (.int x2)] [] := by first | (simp [entryFrame, mkF, argsToLocals, Value.category]; done) | rfl
theorem pn_StringUTF16906 : plainName "java/lang/StringUTF16" = true := by first | (simp [plainName, overriddenIn]; done) | decide +kernel
abbrev y20_putChar : MethodName := ⟨"java/lang/StringUTF16", "putChar", "([BII)V"⟩
def WS_r29_putChar (Z : State) (o0 : Addr) : List (Addr × Nat) := [(o0, (0 : Int32).toNatClampNeg), (o0, (1 : Int32).toNatClampNeg)]
def Q_r29_putChar (Z : State) (o0 : Addr) (i_1 : Int32) (k_o0 : ClassId) (h0 : Heap) (n0 : Nat) (v : Option Value) (h : Heap) (L : List Loc) : Prop := v = none ∧ Fr n0 L ∧ KL h0 h (WS_r29_putChar Z o0) ∧ Arv Z h o0 k_o0 .byte 2 [(.int (i_1.toInt8.toInt32)), (.int ((i_1 >>> ((8 : Int32) &&& 31)).toInt8.toInt32))] z0
theorem r29_putChar (l : Launch) (Z : State) (a0 : Array Value) (hw : HW Z a0) (ws : List Jvm.Cond) (o0 : Addr) (i_1 : Int32) (k_o0 : ClassId) (h0 : Heap) (n0 : Nat) (Z0 : n0 ≤ h0.size) (S__assertionsDisabled : Sa5 Z (.int 1)) (O0 : Old Z n0 h0) (S_HI_BYTE_SHIFT : Sa6 Z z0) (V_o0 : Arv Z h0 o0 k_o0 .byte 2 [z0, z0] z0) (g_o0 : n0 ≤ o0) (S_LO_BYTE_SHIFT : Sa7 Z (.int 8)) :
    MF l Z y20_putChar b21_ 3 none ws ⟨0, 0, 0, 0⟩ #[(.ref o0), z0, (.int i_1)] h0 (Q_r29_putChar Z o0 i_1 k_o0 h0 n0) := by
 refine own_body (plainFor_of_name pn_StringUTF16906) (ef_12 o0 (0 : Int32) i_1) (by decide) (by decide) ?_
 intro p e s m below meth c s₁ hx hby hml hown hnm hret hZ hh e0 X0
 have N0 := Fr.nil n0
 obtain ⟨T2, X2, e2, st2⟩ := getS2 X0 hx hZ hown (host := "") (Or.inl (w81 hw)) Via.refl e0 (Sta.ext O0.2 S__assertionsDisabled) (g := (mkF m 0 #[vr o0, vi 0, vi i_1] [])) rfl (hb hby d215)
 obtain ⟨T3, X3, e3, st3⟩ := getS2 X2 hx hZ hown (host := "") (Or.inl (w82 hw)) Via.refl e2 (Sta.ext O0.2 S_HI_BYTE_SHIFT) (g := (mkF m 38 #[vr o0, vi 1, vi i_1] [(.int i_1), z0, (.ref o0)])) rfl (hb hby d225)
 obtain ⟨T4, h4, X4, e4, W4, V4, st4⟩ := own_astB X3 hx hZ e3 V_o0 (j := 0) (by decide) 0 rfl (Nat.le_of_ble_eq_true rfl) (g := (mkF m 43 #[vr o0, vi 1, vi i_1] [(.int (i_1.toInt8.toInt32)), z0, (.ref o0)])) rfl rfl (hb hby d228)
 rw [show (nar .byte (i_1.toInt8.toInt32)) = (i_1.toInt8.toInt32) from (own_narb _)] at V4
 have K4 := KL.ofW W4
 replace V4 : Arv Z h4 o0 k_o0 .byte 2 [(.int (i_1.toInt8.toInt32)), z0] z0 := V4
 have N4 := Fr.snoc X4 N0 g_o0
 have f5 := (kOld K4 O0 (naG g_o0 na0))
 obtain ⟨T6, X6, e6, st6⟩ := getS2 X4 hx hZ hown (host := "") (Or.inl (w83 hw)) Via.refl e4 (Sta.ext f5.2 S_LO_BYTE_SHIFT) (g := (mkF m 47 #[vr o0, vi 1, vi i_1] [(.int i_1), (.int 1), (.ref o0)])) rfl (hb hby d232)
 obtain ⟨T7, h7, X7, e7, W7, V7, st7⟩ := own_astB X6 hx hZ e6 V4 (j := 1) (by decide) 1 rfl (Nat.le_of_ble_eq_true rfl) (g := (mkF m 52 #[vr o0, vi 1, vi i_1] [(.int ((i_1 >>> ((8 : Int32) &&& 31)).toInt8.toInt32)), (.int 1), (.ref o0)])) rfl rfl (hb hby d235)
 rw [show (nar .byte ((i_1 >>> ((8 : Int32) &&& 31)).toInt8.toInt32)) = ((i_1 >>> ((8 : Int32) &&& 31)).toInt8.toInt32) from (own_narb _)] at V7
 have K7 := KL.ofW W7
 replace V7 : Arv Z h7 o0 k_o0 .byte 2 [(.int (i_1.toInt8.toInt32)), (.int ((i_1 >>> ((8 : Int32) &&& 31)).toInt8.toInt32))] z0 := V7
 have N7 := Fr.snoc X7 N4 g_o0
 have C0 := (KL.refl h0 (WS_r29_putChar Z o0)).trans K4 (naO (own_mi 0 rfl) na0)
 have C1 := C0.trans K7 (naO (own_mi 1 rfl) na0)
 refine ⟨T7, _, none, X7, (fun h => by cases h <;> rfl), ?_, fun fs hr => ?_⟩
 · show Q_r29_putChar Z o0 i_1 k_o0 h0 n0 _ T7.heap _
   rw [e7]
   exact ⟨rfl, N7, C1, V7⟩
 refine st2 _ ?_
 refine t_ifYes (pc := 3) 28 X2.here hx hby d216 (by decide) (by decide) (by decide) ?_
 refine t_iloadN 29 X2.here hx hby d217 rfl rfl ?_
 refine t_iconst 30 (r := 1) X2.here hx hby d218 (by decide) rfl ?_
 refine t_ishl 31 (r := 0) X2.here hx hby d219 (by decide : ((0 : Int32) <<< ((1 : Int32) &&& 31)) = (0 : Int32)) rfl ?_
 refine t_istoreN (pc' := 32) (L' := #[vr o0, vi 0, vi i_1]) X2.here hx hby d220 rfl rfl ?_
 refine t_aloadN 33 X2.here hx hby d221 rfl rfl rfl ?_
 refine t_iloadN 34 X2.here hx hby d222 rfl rfl ?_
 refine t_iinc (pc' := 37) (L' := #[vr o0, vi 1, vi i_1]) X2.here hx hby d223 rfl (by first | rfl | decide) rfl ?_
 refine t_iloadN 38 X2.here hx hby d224 rfl rfl ?_
 refine st3 _ ?_
 refine t_ishr 42 (r := i_1) X3.here hx hby d226 (own_shr0 _) rfl ?_
 refine t_i2b 43 X3.here hx hby d227 rfl rfl ?_
 refine st4 _ ?_
 refine t_aloadN 45 X4.here hx hby d229 rfl rfl rfl ?_
 refine t_iloadN 46 X4.here hx hby d230 rfl rfl ?_
 refine t_iloadN 47 X4.here hx hby d231 rfl rfl ?_
 refine st6 _ ?_
 refine t_ishr 51 X6.here hx hby d233 rfl rfl ?_
 refine t_i2b 52 X6.here hx hby d234 rfl rfl ?_
 refine st7 _ ?_
 exact X7.returnOut hx hret (hb hby d236) hr
def w80 (hw : HW Z a0) := ow 80 hw rfl
def w60 (hw : HW Z a0) := ow 60 hw rfl
theorem pd_19 : parseMethodDescriptor "([BII)V" = some ⟨[(.array .byte), .int, .int], none⟩ := by decide +kernel
def w79 (hw : HW Z a0) := ow 79 hw rfl
theorem d237 : decode b20_ 10 = .ok (.aload_n 1, 1) := by decide +kernel
theorem d238 : decode b20_ 11 = .ok (.areturn, 1) := by decide +kernel
theorem ef_13 (x0 : Int32) (m : MethodId) : entryFrame m #[(.int x0)] 2 = mkF m 0 #[.val (.int x0), .unset] [] := by first | (simp [entryFrame, mkF, argsToLocals, Value.category]; done) | rfl
abbrev y21_toBytes : MethodName := ⟨"java/lang/StringUTF16", "toBytes", "(C)[B"⟩
def Q_r28_toBytes (Z : State) (i_1 : Int32) (h0 : Heap) (n0 : Nat) (v : Option Value) (h : Heap) (L : List Loc) : Prop := ∃ b2 : Addr, ∃ k2 : ClassId, v = some (.ref b2) ∧ Fr n0 L ∧ KL h0 h [] ∧ h0.size ≤ b2 ∧ Arv Z h b2 k2 .byte 2 [(.int (i_1.toInt8.toInt32)), (.int ((i_1 >>> ((8 : Int32) &&& 31)).toInt8.toInt32))] z0
theorem r28_toBytes (l : Launch) (Z : State) (a0 : Array Value) (hw : HW Z a0) (ws : List Jvm.Cond) (i_1 : Int32) (h0 : Heap) (n0 : Nat) (Z0 : n0 ≤ h0.size) (S__assertionsDisabled : Sa5 Z (.int 1)) (S_HI_BYTE_SHIFT : Sa6 Z z0) (S_LO_BYTE_SHIFT : Sa7 Z (.int 8)) (O0 : Old Z n0 h0) :
    MF l Z y21_toBytes b20_ 2 (some (.array .byte)) ws ⟨1, 1, 2, 14⟩ #[(.int i_1)] h0 (Q_r28_toBytes Z i_1 h0 n0) := by
 refine own_body (plainFor_of_name pn_StringUTF16906) (ef_13 i_1) (by decide) (by decide) ?_
 intro p e s m below meth c s₁ hx hby hml hown hnm hret hZ hh e0 X0
 have N0 := Fr.nil n0
 obtain ⟨T2, h2, k2, X2, e2, E2, A2, st2⟩ := newP (aty := .byte) X0 hx hZ (w20 hw) e0 (g := (mkF m 1 #[vi i_1, .unset] [(.int 2)])) rfl (hb hby d209) rfl (by decide) (cap := 2) (by decide) (by decide) (by decide) (by decide)
 obtain ⟨b2, g2⟩ : ∃ z, z = h0.size := ⟨_, rfl⟩
 rw [← g2] at A2 st2
 have ge_b2 : h0.size ≤ b2 := Nat.le_of_eq g2.symm
 have K2 := KL.ofE E2
 have V2 : Arv Z h2 b2 k2 .byte 2 [z0, z0] z0 := (Arv.new A2 (by decide)).pad (pad_rep [] z0 2)
 have f4 := (kOld K2 O0 na0)
 have gg5 := Nat.le_trans Z0 ge_b2
 obtain ⟨_, T3, L3, X3, hQ3, st3⟩ := own_static X2 hx hZ hown (w78 hw) (w79 hw) (w60 hw) (w80 hw) (by decide) (r29_putChar l Z a0 hw [] b2 i_1 k2 h2 n0 (Nat.le_trans Z0 K2.1) S__assertionsDisabled f4 S_HI_BYTE_SHIFT V2 gg5 S_LO_BYTE_SHIFT) e2 (W := 0) (by decide) (g := (mkF m 7 #[vi i_1, vr b2] [(.int i_1), z0, (.ref b2)])) rfl hml.symm (argsL := [(.ref b2), z0, (.int i_1)]) (rest := []) (lenOf pd_19 rfl) rfl rfl (own_wr rfl rfl) (hb hby d214)
 obtain ⟨rfl, N3q, K3, Q3_0⟩ := hQ3
 have N3 := Fr.app N0 N3q
 have C0 := (KL.refl h0 []).trans K2 na0
 have C1 := C0.trans K3 (naO (Or.inr ge_b2) (naO (Or.inr ge_b2) na0))
 refine ⟨T3, _, some (.ref b2), X3, (fun h => by cases h <;> rfl), ?_, fun fs hr => ?_⟩
 · show Q_r28_toBytes Z i_1 h0 n0 _ T3.heap _
   exact ⟨b2, k2, rfl, N3, C1, ge_b2, Q3_0⟩
 refine t_iconst 1 (r := 2) X0.here hx hby d208 (by decide) rfl ?_
 refine st2 _ ?_
 refine t_astoreN (pc' := 4) (L' := #[vi i_1, vr b2]) X2.here hx hby d210 rfl rfl rfl ?_
 refine t_aloadN 5 X2.here hx hby d211 rfl rfl rfl ?_
 refine t_iconst 6 (r := 0) X2.here hx hby d212 (by decide) rfl ?_
 refine t_iloadN 7 X2.here hx hby d213 rfl rfl ?_
 refine st3 _ ?_
 refine t_aloadN 11 X3.here hx hby d237 rfl rfl rfl ?_
 jvm_step X3.here [X3.here.top, hx, (hb hby d238), X3.method', hret, Value.isRef, FieldType.isReference]
 first | (intro acts; rw [hr _ acts rfl rfl rfl]) | rw [hr _ _ rfl rfl rfl]
 exact Steps.refl _
def w124 (hw : HW Z a0) := ow 124 hw rfl
def w123 (hw : HW Z a0) := ow 123 hw rfl
theorem d239 : decode b15_ 34 = .ok (.iconst 1, 1) := by decide +kernel
theorem d240 : decode b15_ 35 = .ok (.invokespecial 209, 3) := by decide +kernel
def WS_r30__init_ (Z : State) (o0 : Addr) : List (Addr × Nat) := [(o0, (sl0 Z)), (o0, (sl1 Z))]
def Q_r30__init_ (Z : State) (o0 o1 : Addr) (h0 : Heap) (n0 : Nat) (v : Option Value) (h : Heap) (L : List Loc) : Prop := v = none ∧ Fr n0 L ∧ KL h0 h (WS_r30__init_ Z o0) ∧ Fd0 Z h o0 (.ref o1) ∧ Fd1 Z h o0 (.int 1)
theorem r30__init_ (l : Launch) (Z : State) (a0 : Array Value) (hw : HW Z a0) (ws : List Jvm.Cond) (o0 o1 : Addr) (h0 : Heap) (n0 : Nat) (Z0 : n0 ≤ h0.size) (F_o0_value : Fd0 Z h0 o0 .null) (E_o0 : Ex0 Z h0 o0) (g_o0 : n0 ≤ o0) (F_o0_coder : Fd1 Z h0 o0 z0) :
    MF l Z y17__init_ b18_ 3 none ws ⟨1, 0, 0, 12⟩ #[(.ref o0), (.ref o1), (.int 1)] h0 (Q_r30__init_ Z o0 o1 h0 n0) := by
 refine own_body (plainFor_of_name pn_String564) (ef_11 o0 o1 (1 : Int32)) (by decide) (by decide) ?_
 intro p e s m below meth c s₁ hx hby hml hown hnm hret hZ hh e0 X0
 have N0 := Fr.nil n0
 obtain ⟨T1, X1, e1, st1⟩ := initO X0 hx hZ hown (w16 hw) (w17 hw) (w18 hw) e0 (g := (mkF m 1 #[vr o0, vr o1, vi 1] [(.ref o0)])) rfl hml.symm rfl (hb hby d182) (by decide) (W := 0) (own_wr rfl rfl) (by decide)
 obtain ⟨T2, h2, X2, e2, W2, st2⟩ := putF X1 hx hZ hown (host := "") (Or.inl (w25 hw)) Via.refl e1 F_o0_value E_o0 (Or.inr ⟨(w21 hw), rfl, hnm⟩) (w6 hw) (ty := (.array .byte)) (by decide) rfl rfl (g := (mkF m 6 #[vr o0, vr o1, vi 1] [(.ref o1), (.ref o0)])) rfl rfl (hb hby d185)
 have K2 := KL.ofW W2
 have Fw2 : Fd0 Z h2 o0 (.ref o1) := Fld.same W2 F_o0_value
 have N2 := Fr.snoc X2 N0 g_o0
 have f3 := (kFld K2 F_o0_coder (nwR (sn_0 hw) nw0))
 have f4 := (kExa K2 E_o0)
 obtain ⟨T5, h5, X5, e5, W5, st5⟩ := putF X2 hx hZ hown (host := "") (Or.inl (w26 hw)) Via.refl e2 f3 f4 (Or.inr ⟨(w22 hw), rfl, hnm⟩) (w6 hw) (ty := .byte) (by decide) (by decide) (by decide) (g := (mkF m 11 #[vr o0, vr o1, vi 1] [(.int 1), (.ref o0)])) rfl rfl (hb hby d188)
 have K5 := KL.ofW W5
 have Fw5 : Fd1 Z h5 o0 (.int 1) := Fld.same W5 f3
 have N5 := Fr.snoc X5 N2 g_o0
 have C0 := (KL.refl h0 (WS_r30__init_ Z o0)).trans K2 (naO (own_mi 0 rfl) na0)
 have C1 := C0.trans K5 (naO (own_mi 1 rfl) na0)
 have f6 := (kFld K5 Fw2 (nwR (sn_1 hw) nw0))
 refine ⟨T5, _, none, X5, (fun h => by cases h <;> rfl), ?_, fun fs hr => ?_⟩
 · show Q_r30__init_ Z o0 o1 h0 n0 _ T5.heap _
   rw [e5]
   exact ⟨rfl, N5, C1, f6, Fw5⟩
 refine t_aloadN 1 X0.here hx hby d181 rfl rfl rfl ?_
 refine st1 _ ?_
 refine t_aloadN 5 X1.here hx hby d183 rfl rfl rfl ?_
 refine t_aloadN 6 X1.here hx hby d184 rfl rfl rfl ?_
 refine st2 _ ?_
 refine t_aloadN 10 X2.here hx hby d186 rfl rfl rfl ?_
 refine t_iloadN 11 X2.here hx hby d187 rfl rfl ?_
 refine st5 _ ?_
 exact X5.returnOut hx hret (hb hby d189) hr
theorem d241 : decode b15_ 38 = .ok (.areturn, 1) := by decide +kernel
def Q_r26_valueOf (Z : State) (i_1 i_2 : Int32) (h0 : Heap) (n0 : Nat) (v : Option Value) (h : Heap) (L : List Loc) : Prop := ∃ b5 : Addr, ∃ b2_6 : Addr, ∃ k2_6 : ClassId, v = some (.ref b5) ∧ Fr n0 L ∧ KL h0 h [] ∧ h0.size ≤ b5 ∧ h0.size ≤ b2_6 ∧ b5 ≠ b2_6 ∧ Ex0 Z h b5 ∧ Fd0 Z h b5 (.ref b2_6) ∧ Fd1 Z h b5 (.int 1) ∧ Arv Z h b2_6 k2_6 .byte 2 [(.int (i_1.toInt8.toInt32)), (.int ((i_1 >>> ((8 : Int32) &&& 31)).toInt8.toInt32))] z0
theorem r26_valueOf (l : Launch) (Z : State) (a0 : Array Value) (hw : HW Z a0) (ws : List Jvm.Cond) (i_1 i_2 : Int32) (h0 : Heap) (n0 : Nat) (Z0 : n0 ≤ h0.size) (sCS : SCS Z i_2) (O0 : Old Z n0 h0) (hp0 : ¬ (i_2 = (0 : Int32))) (hp1 : (255 : Int32) < i_1) (S__assertionsDisabled : Sa5 Z (.int 1)) (S_HI_BYTE_SHIFT : Sa6 Z z0) (S_LO_BYTE_SHIFT : Sa7 Z (.int 8)) :
    MF l Z y18_valueOf b15_ 1 (some (.object "java/lang/String")) ws ⟨2, 2, 6, 29⟩ #[(.int i_1)] h0 (Q_r26_valueOf Z i_1 i_2 h0 n0) := by
 refine own_body (plainFor_of_name pn_String564) (ef_10 i_1) (by decide) (by decide) ?_
 intro p e s m below meth c s₁ hx hby hml hown hnm hret hZ hh e0 X0
 have N0 := Fr.nil n0
 obtain ⟨T3, X3, e3, st3⟩ := getS2 X0 hx hZ hown (host := "") (Or.inl (w41 hw)) Via.refl e0 (Sta.ext O0.2 sCS) (g := (mkF m 0 #[vi i_1] [])) rfl (hb hby d156)
 obtain ⟨_, T4, L4, X4, hQ4, st4⟩ := own_static X3 hx hZ hown (w90 hw) (w91 hw) (w92 hw) (w93 hw) (by decide) (r27_canEncode l Z a0 hw [] i_1 h0 n0 Z0 hp1) e3 (W := 0) (by decide) (g := (mkF m 7 #[vi i_1] [(.int i_1)])) rfl hml.symm (argsL := [(.int i_1)]) (rest := []) (lenOf pd_14 rfl) rfl rfl (own_wr rfl rfl) (hb hby d159)
 obtain ⟨rfl, N4q, e4⟩ := hQ4
 have N4 := Fr.app N0 N4q
 obtain ⟨T5, h5, X5, e5, E5, A5, D5, -, st5⟩ := newO X4 hx hZ hown (w94 hw) (w6 hw) (w7 hw) e4 (g := (mkF m 26 #[vi i_1] [])) rfl (hb hby d204) (by decide) (by decide)
 obtain ⟨b5, g5⟩ : ∃ z, z = h0.size := ⟨_, rfl⟩
 rw [← g5] at A5 D5 st5
 have ge_b5 : h0.size ≤ b5 := Nat.le_of_eq g5.symm
 have K5 := KL.ofE E5
 have F_b5_value : Fd0 Z h5 b5 .null := D5 (Or.inr (w21 hw)) (ty := (.array .byte)) (by decide)
 have F_b5_coder : Fd1 Z h5 b5 z0 := D5 (Or.inr (w22 hw)) (ty := .byte) (by decide)
 have f7 := (kOld K5 O0 na0)
 obtain ⟨_, T6, L6, X6, hQ6, st6⟩ := own_static X5 hx hZ hown (w122 hw) (w123 hw) (w60 hw) (w124 hw) (by decide) (r28_toBytes l Z a0 hw [] i_1 h5 n0 (Nat.le_trans Z0 K5.1) S__assertionsDisabled S_HI_BYTE_SHIFT S_LO_BYTE_SHIFT f7) e5 (W := 2) (by decide) (g := (mkF m 31 #[vi i_1] [(.int i_1), (.ref b5), (.ref b5)])) rfl hml.symm (argsL := [(.int i_1)]) (rest := [(.ref b5), (.ref b5)]) (lenOf pd_15 rfl) rfl rfl (own_wr rfl rfl) (hb hby d207)
 obtain ⟨b2_6, k2_6, rfl, N6q, K6, Q6_0, Q6_1⟩ := hQ6
 have N6 := Fr.app N4 N6q
 have f10 := (kFld K6 F_b5_value nw0)
 have f11 := (kExa K6 A5)
 have gg12 := Nat.le_trans Z0 ge_b5
 have f13 := (kFld K6 F_b5_coder nw0)
 have sz_0_2 := (Nat.le_trans K5.1 K6.1)
 obtain ⟨_, T9, L9, X9, hQ9, st9⟩ := own_init X6 hx hZ rfl hown (w98 hw) (w99 hw) (w7 hw) (w100 hw) (by decide) (r30__init_ l Z a0 hw [] b5 b2_6 T6.heap n0 (Nat.le_trans Z0 sz_0_2) f10 f11 gg12 f13) rfl (W := 1) (by decide) (g := (mkF m 35 #[vi i_1] [(.int 1), (.ref b2_6), (.ref b5), (.ref b5)])) rfl hml.symm (argsL := [(.ref b2_6), (.int 1)]) (rest := [(.ref b5)]) (lenOf pd_16 rfl) rfl rfl (own_wr rfl rfl) (hb hby d240)
 obtain ⟨rfl, N9q, K9, Q9_0, Q9_1⟩ := hQ9
 have N9 := Fr.app N6 N9q
 have C0 := (KL.refl h0 []).trans K5 na0
 have C1 := C0.trans K6 na0
 have C2 := C1.trans K9 (naO (Or.inr ge_b5) (naO (Or.inr ge_b5) na0))
 have lt_b5 : b5 < h5.size := Exa.lt A5
 have ne14 := lt_ne lt_b5 Q6_0
 have f15 := (kExa K9 f11)
 have f16 := (kArv K9 Q6_1 (naN ne14 (naN ne14 na0)))
 refine ⟨T9, _, some (.ref b5), X9, (fun h => by cases h <;> rfl), ?_, fun fs hr => ?_⟩
 · show Q_r26_valueOf Z i_1 i_2 h0 n0 _ T9.heap _
   exact ⟨b5, b2_6, k2_6, rfl, N9, C2, ge_b5, (Nat.le_trans K5.1 Q6_0), ne14, f15, Q9_0, Q9_1, f16⟩
 refine st3 _ ?_
 refine t_ifNo 6 X3.here hx hby d157 ((if0 _ _).trans (feq hp0).1) rfl ?_
 refine t_iloadN 7 X3.here hx hby d158 rfl rfl ?_
 refine st4 _ ?_
 refine t_ifYes (pc := 10) 26 X4.here hx hby d166 (by decide) (by decide) (by decide) ?_
 refine st5 _ ?_
 refine t_dup 30 X5.here hx hby d205 rfl rfl ?_
 refine t_iloadN 31 X5.here hx hby d206 rfl rfl ?_
 refine st6 _ ?_
 refine t_iconst 35 (r := 1) X6.here hx hby d239 (by decide) rfl ?_
 refine st9 _ ?_
 jvm_step X9.here [X9.here.top, hx, (hb hby d241), X9.method', hret, Value.isRef, FieldType.isReference]
 first | (intro acts; rw [hr _ acts rfl rfl rfl]) | rw [hr _ _ rfl rfl rfl]
 exact Steps.refl _
def Q_r25_make (Z : State) (i_1 i_2 i_3 i_4 : Int32) (h0 : Heap) (n0 : Nat) (v : Option Value) (h : Heap) (L : List Loc) : Prop := ∃ b5_5 : Addr, ∃ b2_6_5 : Addr, ∃ k2_6_5 : ClassId, v = some (.ref b5_5) ∧ Fr n0 L ∧ KL h0 h [] ∧ h0.size ≤ b5_5 ∧ h0.size ≤ b2_6_5 ∧ b5_5 ≠ b2_6_5 ∧ Ex0 Z h b5_5 ∧ Fd0 Z h b5_5 (.ref b2_6_5) ∧ Fd1 Z h b5_5 (.int 1) ∧ Arv Z h b2_6_5 k2_6_5 .byte 2 [(.int (i_1.toInt8.toInt32)), (.int ((i_1 >>> ((8 : Int32) &&& 31)).toInt8.toInt32))] z0
theorem r25_make (l : Launch) (Z : State) (a0 : Array Value) (hw : HW Z a0) (ws : List Jvm.Cond) (i_1 i_2 i_3 i_4 : Int32) (h0 : Heap) (n0 : Nat) (Z0 : n0 ≤ h0.size) (sCS : SCS Z i_4) (S__assertionsDisabled : Sa5 Z (.int 1)) (S_HI_BYTE_SHIFT : Sa6 Z z0) (S_LO_BYTE_SHIFT : Sa7 Z (.int 8)) (O0 : Old Z n0 h0) (hp0 : ¬ (i_4 = (0 : Int32))) (hp1 : (255 : Int32) < i_1) :
    MF l Z y13_make b11_ 4 (some (.object "java/lang/String")) ws ⟨3, 2, 6, 41⟩ #[(.int 1), (.int i_1), (.int i_2), (.int i_3)] h0 (Q_r25_make Z i_1 i_2 i_3 i_4 h0 n0) := by
 refine own_body (plainFor_of_name pn_PaymentFrequencyUnitOfPinLaw855) (ef_8 (1 : Int32) i_1 i_2 i_3) (by decide) (by decide) ?_
 intro p e s m below meth c s₁ hx hby hml hown hnm hret hZ hh e0 X0
 have N0 := Fr.nil n0
 obtain ⟨_, T5, L5, X5, hQ5, st5⟩ := own_static X0 hx hZ hown (w87 hw) (w88 hw) (w7 hw) (w89 hw) (by decide) (r26_valueOf l Z a0 hw [] i_1 i_4 h0 n0 Z0 sCS O0 hp0 hp1 S__assertionsDisabled S_HI_BYTE_SHIFT S_LO_BYTE_SHIFT) e0 (W := 0) (by decide) (g := (mkF m 21 #[vi 1, vi i_1, vi i_2, vi i_3] [(.int i_1)])) rfl hml.symm (argsL := [(.int i_1)]) (rest := []) (lenOf pd_17 rfl) rfl rfl (own_wr rfl rfl) (hb hby d155)
 obtain ⟨b5_5, b2_6_5, k2_6_5, rfl, N5q, K5, Q5_0, Q5_1, Q5_2, Q5_3, Q5_4, Q5_5, Q5_6⟩ := hQ5
 have N5 := Fr.app N0 N5q
 have C0 := (KL.refl h0 []).trans K5 na0
 refine ⟨T5, _, some (.ref b5_5), X5, (fun h => by cases h <;> rfl), ?_, fun fs hr => ?_⟩
 · show Q_r25_make Z i_1 i_2 i_3 i_4 h0 n0 _ T5.heap _
   exact ⟨b5_5, b2_6_5, k2_6_5, rfl, N5, C0, Q5_0, Q5_1, Q5_2, Q5_3, Q5_4, Q5_5, Q5_6⟩
 refine t_iloadN 1 X0.here hx hby d113 rfl rfl ?_
 refine t_ifYes (pc := 1) 15 X0.here hx hby d114 (by decide) (by decide) (by decide) ?_
 refine t_iloadN 16 X0.here hx hby d151 rfl rfl ?_
 refine t_iconst 17 (r := 1) X0.here hx hby d152 (by decide) rfl ?_
 refine t_icmpNo 20 X0.here hx hby d153 (by decide) rfl ?_
 refine t_iloadN 21 X0.here hx hby d154 rfl rfl ?_
 refine st5 _ ?_
 jvm_step X5.here [X5.here.top, hx, (hb hby d191), X5.method', hret, Value.isRef, FieldType.isReference]
 first | (intro acts; rw [hr _ acts rfl rfl rfl]) | rw [hr _ _ rfl rfl rfl]
 exact Steps.refl _
def Q_r33_coder (Z : State) (o0 : Addr) (i_1 : Int32) (h0 : Heap) (n0 : Nat) (v : Option Value) (h : Heap) (L : List Loc) : Prop := v = some (.int 1) ∧ Fr n0 L ∧ h = h0
theorem r33_coder (l : Launch) (Z : State) (a0 : Array Value) (hw : HW Z a0) (ws : List Jvm.Cond) (o0 : Addr) (i_1 : Int32) (h0 : Heap) (n0 : Nat) (Z0 : n0 ≤ h0.size) (sCS : SCS Z i_1) (O0 : Old Z n0 h0) (hp0 : ¬ (i_1 = (0 : Int32))) (F_o0_coder : Fd1 Z h0 o0 (.int 1)) :
    MF l Z y2_coder b4_ 1 (some .byte) ws ⟨0, 0, 0, 0⟩ #[(.ref o0)] h0 (Q_r33_coder Z o0 i_1 h0 n0) := by
 refine own_body (plainFor_of_name pn_String564) (ef_3 o0) (by decide) (by decide) ?_
 intro p e s m below meth c s₁ hx hby hml hown hnm hret hZ hh e0 X0
 have N0 := Fr.nil n0
 obtain ⟨T2, X2, e2, st2⟩ := getS2 X0 hx hZ hown (host := "") (Or.inl (w41 hw)) Via.refl e0 (Sta.ext O0.2 sCS) (g := (mkF m 0 #[vr o0] [])) rfl (hb hby d22)
 obtain ⟨T3, X3, e3, st3⟩ := getF X2 hx hZ hown (host := "") (Or.inl (w26 hw)) Via.refl e2 F_o0_coder (g := (mkF m 7 #[vr o0] [(.ref o0)])) rfl rfl (hb hby d25)
 refine ⟨T3, _, some (.int 1), X3, (fun h => by cases h <;> rfl), ?_, fun fs hr => ?_⟩
 · show Q_r33_coder Z o0 i_1 h0 n0 _ T3.heap _
   rw [e3]
   exact ⟨rfl, N0, rfl⟩
 refine st2 _ ?_
 refine t_ifNo 6 X2.here hx hby d23 ((if0 _ _).trans (feq hp0).1) rfl ?_
 refine t_aloadN 7 X2.here hx hby d24 rfl rfl rfl ?_
 refine st3 _ ?_
 refine t_goto (pc := 10) 14 X3.here hx hby d26 (by decide) (by decide) ?_
 exact retN X3 hx (t := .byte) hret (by simp) (hb hby d27) hr
def Q_r32_length (Z : State) (o0 o_1 : Addr) (i_3 i_4 : Int32) (k_o_1 : ClassId) (i_5 : Int32) (h0 : Heap) (n0 : Nat) (v : Option Value) (h : Heap) (L : List Loc) : Prop := v = some (.int 1) ∧ Fr n0 L ∧ h = h0
theorem r32_length (l : Launch) (Z : State) (a0 : Array Value) (hw : HW Z a0) (ws : List Jvm.Cond) (o0 o_1 : Addr) (i_3 i_4 : Int32) (k_o_1 : ClassId) (i_5 : Int32) (h0 : Heap) (n0 : Nat) (Z0 : n0 ≤ h0.size) (F_o0_value : Fd0 Z h0 o0 (.ref o_1)) (V_o_1 : Arv Z h0 o_1 k_o_1 .byte 2 [(.int i_3), (.int i_4)] z0) (E_o0 : Ex0 Z h0 o0) (sCS : SCS Z i_5) (F_o0_coder : Fd1 Z h0 o0 (.int 1)) (O0 : Old Z n0 h0) (hp0 : ¬ (i_5 = (0 : Int32))) :
    MF l Z y3_length b3_ 1 (some .int) ws ⟨1, 0, 0, 13⟩ #[(.ref o0)] h0 (Q_r32_length Z o0 o_1 i_3 i_4 k_o_1 i_5 h0 n0) := by
 refine own_body (plainFor_of_name pn_String564) (ef_3 o0) (by decide) (by decide) ?_
 intro p e s m below meth c s₁ hx hby hml hown hnm hret hZ hh e0 X0
 have N0 := Fr.nil n0
 obtain ⟨T2, X2, e2, st2⟩ := getF X0 hx hZ hown (host := "") (Or.inl (w25 hw)) Via.refl e0 F_o0_value (g := (mkF m 1 #[vr o0] [(.ref o0)])) rfl rfl (hb hby d18)
 obtain ⟨_, T6, L6, X6, hQ6, st6⟩ := own_virtual X2 hx hZ hown (w36 hw) (w37 hw) (nfS hZ (w39 hw)) (w39 hw) (w38 hw) (w7 hw) (w40 hw) (by decide) (r33_coder l Z a0 hw [] o0 i_5 h0 n0 Z0 sCS O0 hp0 F_o0_coder) e2 E_o0 (W := 1) (by decide) (g := (mkF m 6 #[vr o0] [(.ref o0), (.int 2)])) rfl hml.symm (argsL := []) (rest := [(.int 2)]) (lenOf pd_1 rfl) rfl rfl (own_wr rfl rfl) (hb hby d21)
 obtain ⟨rfl, N6q, e6⟩ := hQ6
 have N6 := Fr.app N0 N6q
 refine ⟨T6, _, some (.int 1), X6, (fun h => by cases h <;> rfl), ?_, fun fs hr => ?_⟩
 · show Q_r32_length Z o0 o_1 i_3 i_4 k_o_1 i_5 h0 n0 _ T6.heap _
   rw [e6]
   exact ⟨rfl, N6, rfl⟩
 refine t_aloadN 1 X0.here hx hby d17 rfl rfl rfl ?_
 refine st2 _ ?_
 refine own_arlen (pc' := 5) X2 hx hZ e2 V_o_1 (hb hby d19) rfl ?_
 refine t_aloadN 6 X2.here hx hby d20 rfl rfl rfl ?_
 refine st6 _ ?_
 refine t_ishr 10 (r := 1) X6.here hx hby d28 (by decide : ((2 : Int32) >>> ((1 : Int32) &&& 31)) = (1 : Int32)) rfl ?_
 exact retI X6 hx hret (hb hby d29) hr
theorem d242 : decode b6_ 17 = .ok (.iconst 0, 1) := by decide +kernel
def Q_r35_isLatin1 (Z : State) (o0 : Addr) (i_1 : Int32) (h0 : Heap) (n0 : Nat) (v : Option Value) (h : Heap) (L : List Loc) : Prop := v = some z0 ∧ Fr n0 L ∧ h = h0
theorem r35_isLatin1 (l : Launch) (Z : State) (a0 : Array Value) (hw : HW Z a0) (ws : List Jvm.Cond) (o0 : Addr) (i_1 : Int32) (h0 : Heap) (n0 : Nat) (Z0 : n0 ≤ h0.size) (sCS : SCS Z i_1) (O0 : Old Z n0 h0) (hp0 : ¬ (i_1 = (0 : Int32))) (F_o0_coder : Fd1 Z h0 o0 (.int 1)) :
    MF l Z y4_isLatin1 b6_ 1 (some .boolean) ws ⟨0, 0, 0, 0⟩ #[(.ref o0)] h0 (Q_r35_isLatin1 Z o0 i_1 h0 n0) := by
 refine own_body (plainFor_of_name pn_String564) (ef_3 o0) (by decide) (by decide) ?_
 intro p e s m below meth c s₁ hx hby hml hown hnm hret hZ hh e0 X0
 have N0 := Fr.nil n0
 obtain ⟨T2, X2, e2, st2⟩ := getS2 X0 hx hZ hown (host := "") (Or.inl (w41 hw)) Via.refl e0 (Sta.ext O0.2 sCS) (g := (mkF m 0 #[vr o0] [])) rfl (hb hby d37)
 obtain ⟨T3, X3, e3, st3⟩ := getF X2 hx hZ hown (host := "") (Or.inl (w26 hw)) Via.refl e2 F_o0_coder (g := (mkF m 7 #[vr o0] [(.ref o0)])) rfl rfl (hb hby d40)
 refine ⟨T3, _, some z0, X3, (fun h => by cases h <;> rfl), ?_, fun fs hr => ?_⟩
 · show Q_r35_isLatin1 Z o0 i_1 h0 n0 _ T3.heap _
   rw [e3]
   exact ⟨rfl, N0, rfl⟩
 refine st2 _ ?_
 refine t_ifNo 6 X2.here hx hby d38 ((if0 _ _).trans (feq hp0).1) rfl ?_
 refine t_aloadN 7 X2.here hx hby d39 rfl rfl rfl ?_
 refine st3 _ ?_
 refine t_ifYes (pc := 10) 17 X3.here hx hby d41 (by decide) (by decide) (by decide) ?_
 refine t_iconst 18 (r := 0) X3.here hx hby d242 (by decide) rfl ?_
 exact retN X3 hx (t := .boolean) hret (by simp) (hb hby d44) hr
theorem d243 : decode b5_ 16 = .ok (.aload_n 0, 1) := by decide +kernel
theorem d244 : decode b5_ 17 = .ok (.getfield 9, 3) := by decide +kernel
theorem d245 : decode b5_ 20 = .ok (.iload_n 1, 1) := by decide +kernel
theorem d246 : decode b5_ 21 = .ok (.invokestatic 498, 3) := by decide +kernel
def w125 (hw : HW Z a0) := ow 125 hw rfl
abbrev b22_ := jdk_52_method_83_code
theorem d247 : decode b22_ 0 = .ok (.iload_n 1, 1) := by decide +kernel
theorem d248 : decode b22_ 1 = .ok (.aload_n 0, 1) := by decide +kernel
theorem d249 : decode b22_ 2 = .ok (.invokestatic 67, 3) := by decide +kernel
def w128 (hw : HW Z a0) := ow 128 hw rfl
abbrev b23_ := jdk_52_method_91_code
theorem d250 : decode b23_ 0 = .ok (.iload_n 0, 1) := by decide +kernel
theorem d251 : decode b23_ 1 = .ok (.aload_n 1, 1) := by decide +kernel
theorem d252 : decode b23_ 2 = .ok (.invokestatic 48, 3) := by decide +kernel
def w131 (hw : HW Z a0) := ow 131 hw rfl
abbrev b24_ := jdk_52_method_6_code
theorem d253 : decode b24_ 0 = .ok (.aload_n 0, 1) := by decide +kernel
theorem d254 : decode b24_ 1 = .ok (.arraylength, 1) := by decide +kernel
theorem d255 : decode b24_ 2 = .ok (.iconst 1, 1) := by decide +kernel
theorem d256 : decode b24_ 3 = .ok (.ishr, 1) := by decide +kernel
theorem d257 : decode b24_ 4 = .ok (.ireturn, 1) := by decide +kernel
abbrev y22_length : MethodName := ⟨"java/lang/StringUTF16", "length", "([B)I"⟩
def Q_r38_length (Z : State) (o0 : Addr) (i_1 i_2 : Int32) (k_o0 : ClassId) (h0 : Heap) (n0 : Nat) (v : Option Value) (h : Heap) (L : List Loc) : Prop := v = some (.int 1) ∧ Fr n0 L ∧ h = h0
theorem r38_length (l : Launch) (Z : State) (a0 : Array Value) (hw : HW Z a0) (ws : List Jvm.Cond) (o0 : Addr) (i_1 i_2 : Int32) (k_o0 : ClassId) (h0 : Heap) (n0 : Nat) (Z0 : n0 ≤ h0.size) (V_o0 : Arv Z h0 o0 k_o0 .byte 2 [(.int i_1), (.int i_2)] z0) :
    MF l Z y22_length b24_ 1 (some .int) ws ⟨0, 0, 0, 0⟩ #[(.ref o0)] h0 (Q_r38_length Z o0 i_1 i_2 k_o0 h0 n0) := by
 refine own_body (plainFor_of_name pn_StringUTF16906) (ef_3 o0) (by decide) (by decide) ?_
 intro p e s m below meth c s₁ hx hby hml hown hnm hret hZ hh e0 X0
 have N0 := Fr.nil n0
 refine ⟨s₁, _, some (.int 1), X0, (fun h => by cases h <;> rfl), ?_, fun fs hr => ?_⟩
 · show Q_r38_length Z o0 i_1 i_2 k_o0 h0 n0 _ s₁.heap _
   rw [e0]
   exact ⟨rfl, N0, rfl⟩
 refine t_aloadN 1 X0.here hx hby d253 rfl rfl rfl ?_
 refine own_arlen (pc' := 2) X0 hx hZ e0 V_o0 (hb hby d254) rfl ?_
 refine t_iconst 3 (r := 1) X0.here hx hby d255 (by decide) rfl ?_
 refine t_ishr 4 (r := 1) X0.here hx hby d256 (by decide : ((2 : Int32) >>> ((1 : Int32) &&& 31)) = (1 : Int32)) rfl ?_
 exact retI X0 hx hret (hb hby d257) hr
def w133 (hw : HW Z a0) := ow 133 hw rfl
theorem pd_20 : parseMethodDescriptor "([B)I" = some ⟨[(.array .byte)], some .int⟩ := by decide +kernel
def w132 (hw : HW Z a0) := ow 132 hw rfl
theorem d258 : decode b23_ 5 = .ok (.invokestatic 414, 3) := by decide +kernel
def w134 (hw : HW Z a0) := ow 134 hw rfl
theorem d259 : decode b23_ 8 = .ok (.return_, 1) := by decide +kernel
theorem ef_14 (x0 : Int32) (x1 : Addr) (m : MethodId) : entryFrame m #[(.int x0), (.ref x1)] 2 = mkF m 0 #[.val (.int x0), .val (.ref x1)] [] := by first | (simp [entryFrame, mkF, argsToLocals, Value.category]; done) | rfl
abbrev y23_checkIndex : MethodName := ⟨"java/lang/StringUTF16", "checkIndex", "(I[B)V"⟩
def Q_r37_checkIndex (Z : State) (o1 : Addr) (i_1 i_2 : Int32) (k_o1 : ClassId) (u_4 : Value) (h0 : Heap) (n0 : Nat) (v : Option Value) (h : Heap) (L : List Loc) : Prop := v = none ∧ Fr n0 L ∧ h = h0
theorem r37_checkIndex (l : Launch) (Z : State) (a0 : Array Value) (hw : HW Z a0) (ws : List Jvm.Cond) (o1 : Addr) (i_1 i_2 : Int32) (k_o1 : ClassId) (u_4 : Value) (h0 : Heap) (n0 : Nat) (Z0 : n0 ≤ h0.size) (V_o1 : Arv Z h0 o1 k_o1 .byte 2 [(.int i_1), (.int i_2)] z0) (S_SIOOBE_FORMATTER : Sa0 Z u_4) (hp0 : u_4.isRef = true) (O0 : Old Z n0 h0) :
    MF l Z y23_checkIndex b23_ 2 none ws ⟨2, 0, 0, 27⟩ #[z0, (.ref o1)] h0 (Q_r37_checkIndex Z o1 i_1 i_2 k_o1 u_4 h0 n0) := by
 refine own_body (plainFor_of_name pn_StringUTF16906) (ef_14 (0 : Int32) o1) (by decide) (by decide) ?_
 intro p e s m below meth c s₁ hx hby hml hown hnm hret hZ hh e0 X0
 have N0 := Fr.nil n0
 obtain ⟨_, T3, L3, X3, hQ3, st3⟩ := own_static X0 hx hZ hown (w131 hw) (w132 hw) (w60 hw) (w133 hw) (by decide) (r38_length l Z a0 hw [] o1 i_1 i_2 k_o1 h0 n0 Z0 V_o1) e0 (W := 1) (by decide) (g := (mkF m 2 #[vi 0, vr o1] [(.ref o1), z0])) rfl hml.symm (argsL := [(.ref o1)]) (rest := [z0]) (lenOf pd_20 rfl) rfl rfl (own_wr rfl rfl) (hb hby d252)
 obtain ⟨rfl, N3q, e3⟩ := hQ3
 have N3 := Fr.app N0 N3q
 obtain ⟨_, T5, L5, X5, hQ5, st5⟩ := own_static X3 hx hZ hown (w134 hw) (w115 hw) (w7 hw) (w116 hw) (by decide) (r_checkIndex l Z a0 hw [] (0 : Int32) (1 : Int32) u_4 h0 n0 Z0 hp0 S_SIOOBE_FORMATTER O0 (by decide) (by decide)) e3 (W := 0) (by decide) (g := (mkF m 5 #[vi 0, vr o1] [(.int 1), z0])) rfl hml.symm (argsL := [z0, (.int 1)]) (rest := []) (lenOf pd_4 rfl) rfl rfl (own_wr rfl rfl) (hb hby d258)
 obtain ⟨rfl, N5q, e5⟩ := hQ5
 have N5 := Fr.app N3 N5q
 refine ⟨T5, _, none, X5, (fun h => by cases h <;> rfl), ?_, fun fs hr => ?_⟩
 · show Q_r37_checkIndex Z o1 i_1 i_2 k_o1 u_4 h0 n0 _ T5.heap _
   rw [e5]
   exact ⟨rfl, N5, rfl⟩
 refine t_iloadN 1 X0.here hx hby d250 rfl rfl ?_
 refine t_aloadN 2 X0.here hx hby d251 rfl rfl rfl ?_
 refine st3 _ ?_
 refine st5 _ ?_
 exact X5.returnOut hx hret (hb hby d259) hr
def w130 (hw : HW Z a0) := ow 130 hw rfl
theorem pd_21 : parseMethodDescriptor "(I[B)V" = some ⟨[.int, (.array .byte)], none⟩ := by decide +kernel
def w129 (hw : HW Z a0) := ow 129 hw rfl
theorem d260 : decode b22_ 5 = .ok (.aload_n 0, 1) := by decide +kernel
theorem d261 : decode b22_ 6 = .ok (.iload_n 1, 1) := by decide +kernel
theorem d262 : decode b22_ 7 = .ok (.invokestatic 71, 3) := by decide +kernel
def w84 (hw : HW Z a0) := ow 84 hw rfl
abbrev b25_ := jdk_52_method_5_code
theorem d263 : decode b25_ 0 = .ok (.getstatic 44, 3) := by decide +kernel
theorem d264 : decode b25_ 3 = .ok (.ifCond .ne 25, 3) := by decide +kernel
theorem d265 : decode b25_ 28 = .ok (.iload_n 1, 1) := by decide +kernel
theorem d266 : decode b25_ 29 = .ok (.iconst 1, 1) := by decide +kernel
theorem d267 : decode b25_ 30 = .ok (.ishl, 1) := by decide +kernel
theorem d268 : decode b25_ 31 = .ok (.istore_n 1, 1) := by decide +kernel
theorem d269 : decode b25_ 32 = .ok (.aload_n 0, 1) := by decide +kernel
theorem d270 : decode b25_ 33 = .ok (.iload_n 1, 1) := by decide +kernel
theorem d271 : decode b25_ 34 = .ok (.iinc 1 1, 3) := by decide +kernel
theorem d272 : decode b25_ 37 = .ok (.baload, 1) := by decide +kernel
theorem d273 : decode b25_ 38 = .ok (.sipush 255, 3) := by decide +kernel
theorem d274 : decode b25_ 41 = .ok (.iand, 1) := by decide +kernel
theorem d275 : decode b25_ 42 = .ok (.getstatic 59, 3) := by decide +kernel
theorem d276 : decode b25_ 45 = .ok (.ishl, 1) := by decide +kernel
theorem d277 : decode b25_ 46 = .ok (.aload_n 0, 1) := by decide +kernel
theorem d278 : decode b25_ 47 = .ok (.iload_n 1, 1) := by decide +kernel
theorem d279 : decode b25_ 48 = .ok (.baload, 1) := by decide +kernel
theorem d280 : decode b25_ 49 = .ok (.sipush 255, 3) := by decide +kernel
theorem d281 : decode b25_ 52 = .ok (.iand, 1) := by decide +kernel
theorem d282 : decode b25_ 53 = .ok (.getstatic 63, 3) := by decide +kernel
theorem d283 : decode b25_ 56 = .ok (.ishl, 1) := by decide +kernel
theorem d284 : decode b25_ 57 = .ok (.ior, 1) := by decide +kernel
theorem d285 : decode b25_ 58 = .ok (.i2c, 1) := by decide +kernel
theorem d286 : decode b25_ 59 = .ok (.ireturn, 1) := by decide +kernel
abbrev y24_getChar : MethodName := ⟨"java/lang/StringUTF16", "getChar", "([BI)C"⟩
def Q_r39_getChar (Z : State) (o0 : Addr) (i_2 i_3 : Int32) (k_o0 : ClassId) (h0 : Heap) (n0 : Nat) (v : Option Value) (h : Heap) (L : List Loc) : Prop := v = some (.int (own_chr i_2 i_3)) ∧ Fr n0 L ∧ h = h0
theorem r39_getChar (l : Launch) (Z : State) (a0 : Array Value) (hw : HW Z a0) (ws : List Jvm.Cond) (o0 : Addr) (i_2 i_3 : Int32) (k_o0 : ClassId) (h0 : Heap) (n0 : Nat) (Z0 : n0 ≤ h0.size) (S__assertionsDisabled : Sa5 Z (.int 1)) (O0 : Old Z n0 h0) (V_o0 : Arv Z h0 o0 k_o0 .byte 2 [(.int i_2), (.int i_3)] z0) (S_HI_BYTE_SHIFT : Sa6 Z z0) (S_LO_BYTE_SHIFT : Sa7 Z (.int 8)) :
    MF l Z y24_getChar b25_ 2 (some .char) ws ⟨0, 0, 0, 0⟩ #[(.ref o0), z0] h0 (Q_r39_getChar Z o0 i_2 i_3 k_o0 h0 n0) := by
 refine own_body (plainFor_of_name pn_StringUTF16906) (ef_4 o0 (0 : Int32)) (by decide) (by decide) ?_
 intro p e s m below meth c s₁ hx hby hml hown hnm hret hZ hh e0 X0
 have N0 := Fr.nil n0
 obtain ⟨T1, X1, e1, st1⟩ := getS2 X0 hx hZ hown (host := "") (Or.inl (w81 hw)) Via.refl e0 (Sta.ext O0.2 S__assertionsDisabled) (g := (mkF m 0 #[vr o0, vi 0] [])) rfl (hb hby d263)
 obtain ⟨T4, X4, e4, st4⟩ := getS2 X1 hx hZ hown (host := "") (Or.inl (w82 hw)) Via.refl e1 (Sta.ext O0.2 S_HI_BYTE_SHIFT) (g := (mkF m 42 #[vr o0, vi 1] [(.int (i_2 &&& (255 : Int32)))])) rfl (hb hby d275)
 obtain ⟨T5, X5, e5, st5⟩ := getS2 X4 hx hZ hown (host := "") (Or.inl (w83 hw)) Via.refl e4 (Sta.ext O0.2 S_LO_BYTE_SHIFT) (g := (mkF m 53 #[vr o0, vi 1] [(.int (i_3 &&& (255 : Int32))), (.int (i_2 &&& (255 : Int32)))])) rfl (hb hby d282)
 refine ⟨T5, _, some (.int (own_chr i_2 i_3)), X5, (fun h => by cases h <;> rfl), ?_, fun fs hr => ?_⟩
 · show Q_r39_getChar Z o0 i_2 i_3 k_o0 h0 n0 _ T5.heap _
   rw [e5]
   exact ⟨rfl, N0, rfl⟩
 rw [← (show (nar .char (own_chr i_2 i_3)) = (own_chr i_2 i_3) from (own_chrC _ _))] at hr
 refine st1 _ ?_
 refine t_ifYes (pc := 3) 28 X1.here hx hby d264 (by decide) (by decide) (by decide) ?_
 refine t_iloadN 29 X1.here hx hby d265 rfl rfl ?_
 refine t_iconst 30 (r := 1) X1.here hx hby d266 (by decide) rfl ?_
 refine t_ishl 31 (r := 0) X1.here hx hby d267 (by decide : ((0 : Int32) <<< ((1 : Int32) &&& 31)) = (0 : Int32)) rfl ?_
 refine t_istoreN (pc' := 32) (L' := #[vr o0, vi 0]) X1.here hx hby d268 rfl rfl ?_
 refine t_aloadN 33 X1.here hx hby d269 rfl rfl rfl ?_
 refine t_iloadN 34 X1.here hx hby d270 rfl rfl ?_
 refine t_iinc (pc' := 37) (L' := #[vr o0, vi 1]) X1.here hx hby d271 rfl (by first | rfl | decide) rfl ?_
 refine own_aldB (pc' := 38) X1 hx hZ e1 V_o0 (j := 0) (v := (.int i_2)) (by decide) rfl (hb hby d272) rfl ?_
 refine t_sipush 41 (r := 255) X1.here hx hby d273 (by decide) rfl ?_
 refine t_iand 42 X1.here hx hby d274 rfl rfl ?_
 refine st4 _ ?_
 refine t_ishl 46 (r := (i_2 &&& (255 : Int32))) X4.here hx hby d276 (own_shl0 _) rfl ?_
 refine t_aloadN 47 X4.here hx hby d277 rfl rfl rfl ?_
 refine t_iloadN 48 X4.here hx hby d278 rfl rfl ?_
 refine own_aldB (pc' := 49) X4 hx hZ e4 V_o0 (j := 1) (v := (.int i_3)) (by decide) rfl (hb hby d279) rfl ?_
 refine t_sipush 52 (r := 255) X4.here hx hby d280 (by decide) rfl ?_
 refine t_iand 53 X4.here hx hby d281 rfl rfl ?_
 refine st5 _ ?_
 refine t_ishl 57 X5.here hx hby d283 rfl rfl ?_
 refine t_ior 58 (r := (own_chr i_2 i_3)) X5.here hx hby d284 (Eq.refl (own_chr i_2 i_3)) rfl ?_
 refine t_i2c 59 (r := (own_chr i_2 i_3)) X5.here hx hby d285 (own_chrC _ _) rfl ?_
 exact retN X5 hx (t := .char) hret (by simp) (hb hby d286) hr
def w86 (hw : HW Z a0) := ow 86 hw rfl
def w85 (hw : HW Z a0) := ow 85 hw rfl
theorem d287 : decode b22_ 10 = .ok (.ireturn, 1) := by decide +kernel
abbrev y25_charAt : MethodName := ⟨"java/lang/StringUTF16", "charAt", "([BI)C"⟩
def Q_r36_charAt (Z : State) (o0 : Addr) (i_1 i_2 : Int32) (k_o0 : ClassId) (u_3 : Value) (h0 : Heap) (n0 : Nat) (v : Option Value) (h : Heap) (L : List Loc) : Prop := v = some (.int (own_chr i_1 i_2)) ∧ Fr n0 L ∧ h = h0
theorem r36_charAt (l : Launch) (Z : State) (a0 : Array Value) (hw : HW Z a0) (ws : List Jvm.Cond) (o0 : Addr) (i_1 i_2 : Int32) (k_o0 : ClassId) (u_3 : Value) (h0 : Heap) (n0 : Nat) (Z0 : n0 ≤ h0.size) (V_o0 : Arv Z h0 o0 k_o0 .byte 2 [(.int i_1), (.int i_2)] z0) (S_SIOOBE_FORMATTER : Sa0 Z u_3) (hp0 : u_3.isRef = true) (O0 : Old Z n0 h0) (S__assertionsDisabled : Sa5 Z (.int 1)) (S_HI_BYTE_SHIFT : Sa6 Z z0) (S_LO_BYTE_SHIFT : Sa7 Z (.int 8)) :
    MF l Z y25_charAt b22_ 2 (some .char) ws ⟨3, 0, 0, 40⟩ #[(.ref o0), z0] h0 (Q_r36_charAt Z o0 i_1 i_2 k_o0 u_3 h0 n0) := by
 refine own_body (plainFor_of_name pn_StringUTF16906) (ef_4 o0 (0 : Int32)) (by decide) (by decide) ?_
 intro p e s m below meth c s₁ hx hby hml hown hnm hret hZ hh e0 X0
 have N0 := Fr.nil n0
 obtain ⟨_, T4, L4, X4, hQ4, st4⟩ := own_static X0 hx hZ hown (w128 hw) (w129 hw) (w60 hw) (w130 hw) (by decide) (r37_checkIndex l Z a0 hw [] o0 i_1 i_2 k_o0 u_3 h0 n0 Z0 V_o0 S_SIOOBE_FORMATTER hp0 O0) e0 (W := 0) (by decide) (g := (mkF m 2 #[vr o0, vi 0] [(.ref o0), z0])) rfl hml.symm (argsL := [z0, (.ref o0)]) (rest := []) (lenOf pd_21 rfl) rfl rfl (own_wr rfl rfl) (hb hby d249)
 obtain ⟨rfl, N4q, e4⟩ := hQ4
 have N4 := Fr.app N0 N4q
 obtain ⟨_, T5, L5, X5, hQ5, st5⟩ := own_static X4 hx hZ hown (w84 hw) (w85 hw) (w60 hw) (w86 hw) (by decide) (r39_getChar l Z a0 hw [] o0 i_1 i_2 k_o0 h0 n0 Z0 S__assertionsDisabled O0 V_o0 S_HI_BYTE_SHIFT S_LO_BYTE_SHIFT) e4 (W := 0) (by decide) (g := (mkF m 7 #[vr o0, vi 0] [z0, (.ref o0)])) rfl hml.symm (argsL := [(.ref o0), z0]) (rest := []) (lenOf pd_5 rfl) rfl rfl (own_wr rfl rfl) (hb hby d262)
 obtain ⟨rfl, N5q, e5⟩ := hQ5
 have N5 := Fr.app N4 N5q
 refine ⟨T5, _, some (.int (own_chr i_1 i_2)), X5, (fun h => by cases h <;> rfl), ?_, fun fs hr => ?_⟩
 · show Q_r36_charAt Z o0 i_1 i_2 k_o0 u_3 h0 n0 _ T5.heap _
   rw [e5]
   exact ⟨rfl, N5, rfl⟩
 rw [← (show (nar .char (own_chr i_1 i_2)) = (own_chr i_1 i_2) from (own_chrC _ _))] at hr
 refine t_iloadN 1 X0.here hx hby d247 rfl rfl ?_
 refine t_aloadN 2 X0.here hx hby d248 rfl rfl rfl ?_
 refine st4 _ ?_
 refine t_aloadN 6 X4.here hx hby d260 rfl rfl rfl ?_
 refine t_iloadN 7 X4.here hx hby d261 rfl rfl ?_
 refine st5 _ ?_
 exact retN X5 hx (t := .char) hret (by simp) (hb hby d287) hr
def w127 (hw : HW Z a0) := ow 127 hw rfl
def w126 (hw : HW Z a0) := ow 126 hw rfl
theorem d288 : decode b5_ 24 = .ok (.ireturn, 1) := by decide +kernel
def Q_r34_charAt (Z : State) (o0 : Addr) (i_1 : Int32) (o_3 : Addr) (i_5 i_6 : Int32) (k_o_3 : ClassId) (u_7 : Value) (h0 : Heap) (n0 : Nat) (v : Option Value) (h : Heap) (L : List Loc) : Prop := v = some (.int (own_chr i_5 i_6)) ∧ Fr n0 L ∧ h = h0
theorem r34_charAt (l : Launch) (Z : State) (a0 : Array Value) (hw : HW Z a0) (ws : List Jvm.Cond) (o0 : Addr) (i_1 : Int32) (o_3 : Addr) (i_5 i_6 : Int32) (k_o_3 : ClassId) (u_7 : Value) (h0 : Heap) (n0 : Nat) (Z0 : n0 ≤ h0.size) (E_o0 : Ex0 Z h0 o0) (sCS : SCS Z i_1) (F_o0_coder : Fd1 Z h0 o0 (.int 1)) (O0 : Old Z n0 h0) (hp0 : ¬ (i_1 = (0 : Int32))) (F_o0_value : Fd0 Z h0 o0 (.ref o_3)) (V_o_3 : Arv Z h0 o_3 k_o_3 .byte 2 [(.int i_5), (.int i_6)] z0) (S_SIOOBE_FORMATTER : Sa0 Z u_7) (S__assertionsDisabled : Sa5 Z (.int 1)) (S_HI_BYTE_SHIFT : Sa6 Z z0) (S_LO_BYTE_SHIFT : Sa7 Z (.int 8)) (hp1 : u_7.isRef = true) :
    MF l Z y6_charAt b5_ 2 (some .char) ws ⟨4, 0, 0, 53⟩ #[(.ref o0), z0] h0 (Q_r34_charAt Z o0 i_1 o_3 i_5 i_6 k_o_3 u_7 h0 n0) := by
 refine own_body (plainFor_of_name pn_String564) (ef_4 o0 (0 : Int32)) (by decide) (by decide) ?_
 intro p e s m below meth c s₁ hx hby hml hown hnm hret hZ hh e0 X0
 have N0 := Fr.nil n0
 obtain ⟨_, T2, L2, X2, hQ2, st2⟩ := own_virtual X0 hx hZ hown (w106 hw) (w107 hw) (nfS hZ (w109 hw)) (w109 hw) (w108 hw) (w7 hw) (w110 hw) (by decide) (r35_isLatin1 l Z a0 hw [] o0 i_1 h0 n0 Z0 sCS O0 hp0 F_o0_coder) e0 E_o0 (W := 0) (by decide) (g := (mkF m 1 #[vr o0, vi 0] [(.ref o0)])) rfl hml.symm (argsL := []) (rest := []) (lenOf pd_3 rfl) rfl rfl (own_wr rfl rfl) (hb hby d36)
 obtain ⟨rfl, N2q, e2⟩ := hQ2
 have N2 := Fr.app N0 N2q
 obtain ⟨T4, X4, e4, st4⟩ := getF X2 hx hZ hown (host := "") (Or.inl (w25 hw)) Via.refl e2 F_o0_value (g := (mkF m 17 #[vr o0, vi 0] [(.ref o0)])) rfl rfl (hb hby d244)
 obtain ⟨_, T8, L8, X8, hQ8, st8⟩ := own_static X4 hx hZ hown (w125 hw) (w126 hw) (w60 hw) (w127 hw) (by decide) (r36_charAt l Z a0 hw [] o_3 i_5 i_6 k_o_3 u_7 h0 n0 Z0 V_o_3 S_SIOOBE_FORMATTER hp1 O0 S__assertionsDisabled S_HI_BYTE_SHIFT S_LO_BYTE_SHIFT) e4 (W := 0) (by decide) (g := (mkF m 21 #[vr o0, vi 0] [z0, (.ref o_3)])) rfl hml.symm (argsL := [(.ref o_3), z0]) (rest := []) (lenOf pd_5 rfl) rfl rfl (own_wr rfl rfl) (hb hby d246)
 obtain ⟨rfl, N8q, e8⟩ := hQ8
 have N8 := Fr.app N2 N8q
 refine ⟨T8, _, some (.int (own_chr i_5 i_6)), X8, (fun h => by cases h <;> rfl), ?_, fun fs hr => ?_⟩
 · show Q_r34_charAt Z o0 i_1 o_3 i_5 i_6 k_o_3 u_7 h0 n0 _ T8.heap _
   rw [e8]
   exact ⟨rfl, N8, rfl⟩
 rw [← (show (nar .char (own_chr i_5 i_6)) = (own_chr i_5 i_6) from (own_chrC _ _))] at hr
 refine t_aloadN 1 X0.here hx hby d35 rfl rfl rfl ?_
 refine st2 _ ?_
 refine t_ifYes (pc := 4) 16 X2.here hx hby d45 (by decide) (by decide) (by decide) ?_
 refine t_aloadN 17 X2.here hx hby d243 rfl rfl rfl ?_
 refine st4 _ ?_
 refine t_iloadN 21 X4.here hx hby d245 rfl rfl ?_
 refine st8 _ ?_
 exact retN X8 hx (t := .char) hret (by simp) (hb hby d288) hr
def Q_r31_unitOf (Z : State) (o0 o_1 : Addr) (i_2 i_3 : Int32) (k_o_1 : ClassId) (i_4 : Int32) (u_6 : Value) (o_8 : Addr) (h0 : Heap) (n0 : Nat) (v : Option Value) (h : Heap) (L : List Loc) : Prop := v = some (.ref o_8) ∧ Fr n0 L ∧ h = h0
theorem r31_unitOf (l : Launch) (Z : State) (a0 : Array Value) (hw : HW Z a0) (ws : List Jvm.Cond) (o0 o_1 : Addr) (i_2 i_3 : Int32) (k_o_1 : ClassId) (i_4 : Int32) (u_6 : Value) (o_8 : Addr) (h0 : Heap) (n0 : Nat) (Z0 : n0 ≤ h0.size) (E_o0 : Ex0 Z h0 o0) (F_o0_value : Fd0 Z h0 o0 (.ref o_1)) (V_o_1 : Arv Z h0 o_1 k_o_1 .byte 2 [(.int i_2), (.int i_3)] z0) (sCS : SCS Z i_4) (F_o0_coder : Fd1 Z h0 o0 (.int 1)) (O0 : Old Z n0 h0) (hp0 : ¬ (i_4 = (0 : Int32))) (S_SIOOBE_FORMATTER : Sa0 Z u_6) (S__assertionsDisabled : Sa5 Z (.int 1)) (S_HI_BYTE_SHIFT : Sa6 Z z0) (S_LO_BYTE_SHIFT : Sa7 Z (.int 8)) (hp1 : u_6.isRef = true) (hp2 : ¬ ((own_chr i_2 i_3) = (68 : Int32))) (hp3 : ¬ ((own_chr i_2 i_3) = (77 : Int32))) (hp4 : ¬ ((own_chr i_2 i_3) = (89 : Int32))) (hp5 : ¬ ((own_chr i_2 i_3) = (100 : Int32))) (hp6 : ¬ ((own_chr i_2 i_3) = (109 : Int32))) (hp7 : ¬ ((own_chr i_2 i_3) = (121 : Int32))) (S_EMPTY : Sa4 Z (.ref o_8)) :
    MF l Z y9_unitOf b2_ 2 (some (.object "java/util/Optional")) ws ⟨5, 0, 0, 66⟩ #[(.ref o0)] h0 (Q_r31_unitOf Z o0 o_1 i_2 i_3 k_o_1 i_4 u_6 o_8 h0 n0) := by
 refine own_body (plainFor_of_name pn_PaymentFrequency668) (ef_6 o0) (by decide) (by decide) ?_
 intro p e s m below meth c s₁ hx hby hml hown hnm hret hZ hh e0 X0
 have N0 := Fr.nil n0
 obtain ⟨_, T5, L5, X5, hQ5, st5⟩ := own_virtual X0 hx hZ hown (w31 hw) (w32 hw) (nfS hZ (w34 hw)) (w34 hw) (w33 hw) (w7 hw) (w35 hw) (by decide) (r32_length l Z a0 hw [] o0 o_1 i_2 i_3 k_o_1 i_4 h0 n0 Z0 F_o0_value V_o_1 E_o0 sCS F_o0_coder O0 hp0) e0 E_o0 (W := 0) (by decide) (g := (mkF m 3 #[vr o0, .val .null] [(.ref o0)])) rfl hml.symm (argsL := []) (rest := []) (lenOf pd_2 rfl) rfl rfl (own_wr rfl rfl) (hb hby d16)
 obtain ⟨rfl, N5q, e5⟩ := hQ5
 have N5 := Fr.app N0 N5q
 obtain ⟨_, T7, L7, X7, hQ7, st7⟩ := own_virtual X5 hx hZ hown (w101 hw) (w102 hw) (nfS hZ (w104 hw)) (w104 hw) (w103 hw) (w7 hw) (w105 hw) (by decide) (r34_charAt l Z a0 hw [] o0 i_4 o_1 i_2 i_3 k_o_1 u_6 h0 n0 Z0 E_o0 sCS F_o0_coder O0 hp0 F_o0_value V_o_1 S_SIOOBE_FORMATTER S__assertionsDisabled S_HI_BYTE_SHIFT S_LO_BYTE_SHIFT hp1) e5 E_o0 (W := 0) (by decide) (g := (mkF m 12 #[vr o0, .val .null] [z0, (.ref o0)])) rfl hml.symm (argsL := [z0]) (rest := []) (lenOf pd_6 rfl) rfl rfl (own_wr rfl rfl) (hb hby d34)
 obtain ⟨rfl, N7q, e7⟩ := hQ7
 have N7 := Fr.app N5 N7q
 obtain ⟨_, T9, L9, X9, hQ9, st9⟩ := own_static X7 hx hZ hown (w42 hw) (w43 hw) (w44 hw) (w45 hw) (by decide) (r13_ofNullable l Z a0 hw [] o_8 h0 n0 Z0 S_EMPTY O0) e7 (W := 0) (by decide) (g := (mkF m 93 #[vr o0, .val .null] [.null])) rfl hml.symm (argsL := [.null]) (rest := []) (lenOf pd_8 rfl) rfl rfl (own_wr rfl rfl) (hb hby d67)
 obtain ⟨rfl, N9q, e9⟩ := hQ9
 have N9 := Fr.app N7 N9q
 refine ⟨T9, _, some (.ref o_8), X9, (fun h => by cases h <;> rfl), ?_, fun fs hr => ?_⟩
 · show Q_r31_unitOf Z o0 o_1 i_2 i_3 k_o_1 i_4 u_6 o_8 h0 n0 _ T9.heap _
   rw [e9]
   exact ⟨rfl, N9, rfl⟩
 refine t_aconst_null 1 X0.here hx hby d13 rfl ?_
 refine t_astoreN (pc' := 2) (L' := #[vr o0, .val .null]) X0.here hx hby d14 rfl rfl rfl ?_
 refine t_aloadN 3 X0.here hx hby d15 rfl rfl rfl ?_
 refine st5 _ ?_
 refine t_iconst 7 (r := 1) X5.here hx hby d30 (by decide) rfl ?_
 refine t_icmpNo 10 X5.here hx hby d31 (by decide) rfl ?_
 refine t_aloadN 11 X5.here hx hby d32 rfl rfl rfl ?_
 refine t_iconst 12 (r := 0) X5.here hx hby d33 (by decide) rfl ?_
 refine st7 _ ?_
 refine own_lswM (pc := 15) (pc' := 90) X7 hx (hb hby d62) (by decide) (own_lsn6 hp2 hp3 hp4 hp5 hp6 hp7 rfl rfl rfl rfl rfl rfl) (by decide) (by decide) ?_
 refine t_aconst_null 91 X7.here hx hby d200 rfl ?_
 refine t_astoreN (pc' := 92) (L' := #[vr o0, .val .null]) X7.here hx hby d65 rfl rfl rfl ?_
 refine t_aloadN 93 X7.here hx hby d66 rfl rfl rfl ?_
 refine st9 _ ?_
 jvm_step X9.here [X9.here.top, hx, (hb hby d81), X9.method', hret, Value.isRef, FieldType.isReference]
 first | (intro acts; rw [hr _ acts rfl rfl rfl]) | rw [hr _ _ rfl rfl rfl]
 exact Steps.refl _
theorem law_a1_b (l : Launch) (Z : State) (a0 : Array Value) (hw : HW Z a0) (ws : List Jvm.Cond) (p0 p1 p2 p3 cs : Int32) (fm : Value) (st_EMPTY st_DAYS st_MONTHS st_YEARS : Addr) (h0 : Heap) (n0 : Nat) (Z0 : n0 ≤ h0.size) (ha : (255 : Int32) < (own_ch p1)) (hcs : ¬ (cs = (0 : Int32))) (hfm : fm.isRef = true) (hln : (p0 &&& (3 : Int32)) = (1 : Int32)) (hbit : (((p0.toUInt32 >>> ((2 : Int32) &&& 31).toUInt32).toInt32) &&& (1 : Int32)) = (0 : Int32)) (sCS : SCS Z cs) (S__assertionsDisabled : Sa5 Z (.int 1)) (S_HI_BYTE_SHIFT : Sa6 Z z0) (S_LO_BYTE_SHIFT : Sa7 Z (.int 8)) (O0 : Old Z n0 h0) (S_SIOOBE_FORMATTER : Sa0 Z fm) (S_EMPTY : Sa4 Z (.ref st_EMPTY)) (E_st_EMPTY : Ex1 Z h0 st_EMPTY) (F_st_EMPTY_value : Fd2 Z h0 st_EMPTY .null) :
    LawM l Z ws p0 p1 p2 p3 h0 n0 := by
 refine own_bodyH (k := 2) (n := 6) (y := x) (Q := fun v _ L => Q_law n0 v L) (own_EW hw) (plainFor_of_name pn_PaymentFrequencyUnitOfPinLaw855) (ef_law p0 p1 p2 p3) (by decide) (by decide) ?_
 intro p e s m below meth c s₁ hx hby hml hown hnm hret hZ e0 hS0 hk0 X0 hC0 hSF0
 have N0 := Fr.nil n0
 obtain ⟨_, T1, L1, X1, hQ1, st1⟩ := own_static X0 hx hZ hown (w1 hw) (w2 hw) (w3 hw) (w4 hw) (by decide) (r25_make l Z a0 hw [] (own_ch p1) (own_ch p2) (own_ch p3) cs h0 n0 Z0 sCS S__assertionsDisabled S_HI_BYTE_SHIFT S_LO_BYTE_SHIFT O0 hcs ha) e0 (W := 0) (by decide) (g := (mkF m 102 #[vi p0, vi p1, vi p2, vi p3, vi 1, vi ((own_ch p1)), vi ((own_ch p2)), vi ((own_ch p3)), .unset, .unset, .unset] [(.int (own_ch p3)), (.int (own_ch p2)), (.int (own_ch p1)), (.int 1)])) rfl hml.symm (argsL := [(.int 1), (.int (own_ch p1)), (.int (own_ch p2)), (.int (own_ch p3))]) (rest := []) (lenOf pd_11 rfl) rfl rfl (own_wr rfl rfl) (hb hby at_102)
 obtain ⟨b5_5_1, b2_6_5_1, k2_6_5_1, rfl, N1q, K1, Q1_0, Q1_1, Q1_2, Q1_3, Q1_4, Q1_5, Q1_6⟩ := hQ1
 have N1 := Fr.app N0 N1q
 have Ck0 := own_chK K1 na0 (CHr.refl hC0).1
 have Ah1 := (CHr.refl hC0).trans Ck0.1
 have f5 := (kOld K1 O0 na0)
 obtain ⟨_, T4, L4, X4, hQ4, st4⟩ := own_static X1 hx hZ hown (w27 hw) (w28 hw) (w29 hw) (w30 hw) (by decide) (r31_unitOf l Z a0 hw [] b5_5_1 b2_6_5_1 ((own_ch p1).toInt8.toInt32) (((own_ch p1) >>> ((8 : Int32) &&& 31)).toInt8.toInt32) k2_6_5_1 cs fm st_EMPTY T1.heap n0 (Nat.le_trans Z0 K1.1) Q1_3 Q1_4 Q1_6 sCS Q1_5 f5 hcs S_SIOOBE_FORMATTER S__assertionsDisabled S_HI_BYTE_SHIFT S_LO_BYTE_SHIFT hfm (own_chrN (own_m16a p1) (own_m16b p1) (own_big ha (by decide))) (own_chrN (own_m16a p1) (own_m16b p1) (own_big ha (by decide))) (own_chrN (own_m16a p1) (own_m16b p1) (own_big ha (by decide))) (own_chrN (own_m16a p1) (own_m16b p1) (own_big ha (by decide))) (own_chrN (own_m16a p1) (own_m16b p1) (own_big ha (by decide))) (own_chrN (own_m16a p1) (own_m16b p1) (own_big ha (by decide))) S_EMPTY) rfl (W := 0) (by decide) (g := (mkF m 109 #[vi p0, vi p1, vi p2, vi p3, vi 1, vi ((own_ch p1)), vi ((own_ch p2)), vi ((own_ch p3)), vr b5_5_1, .unset, .unset] [(.ref b5_5_1)])) rfl hml.symm (argsL := [(.ref b5_5_1)]) (rest := []) (lenOf pd_12 rfl) rfl rfl (own_wr rfl rfl) (hb hby at_109)
 obtain ⟨rfl, N4q, e4⟩ := hQ4
 have N4 := Fr.app N1 N4q
 obtain ⟨_, T6, L6, X6, hQ6, st6⟩ := own_static X4 hx hZ hown (w47 hw) (w48 hw) (w3 hw) (w49 hw) (by decide) (r24_expected l Z a0 hw [] (own_ch p1) T1.heap n0 (Nat.le_trans Z0 K1.1) (own_big ha (by decide)) (own_big ha (by decide)) (own_big ha (by decide)) (own_big ha (by decide)) (own_big ha (by decide)) (own_big ha (by decide))) e4 (W := 0) (by decide) (g := (mkF m 118 #[vi p0, vi p1, vi p2, vi p3, vi 1, vi ((own_ch p1)), vi ((own_ch p2)), vi ((own_ch p3)), vr b5_5_1, vr st_EMPTY, .unset] [(.int (own_ch p1)), (.int 1)])) rfl hml.symm (argsL := [(.int 1), (.int (own_ch p1))]) (rest := []) (lenOf pd_13 rfl) rfl rfl (own_wr rfl rfl) (hb hby at_118)
 obtain ⟨rfl, N6q, e6⟩ := hQ6
 have N6 := Fr.app N4 N6q
 have f8 := (kFld K1 F_st_EMPTY_value nw0)
 have f9 := (kExa K1 E_st_EMPTY)
 obtain ⟨_, T7, L7, X7, hQ7, st7⟩ := own_virtual X6 hx hZ hown (w50 hw) (w51 hw) (nfS hZ (w53 hw)) (w53 hw) (w52 hw) (w44 hw) (w54 hw) (by decide) (r15_isPresent l Z a0 hw [] st_EMPTY T1.heap n0 (Nat.le_trans Z0 K1.1) f8) e6 f9 (W := 0) (by decide) (g := (mkF m 130 #[vi p0, vi p1, vi p2, vi p3, vi 1, vi ((own_ch p1)), vi ((own_ch p2)), vi ((own_ch p3)), vr b5_5_1, vr st_EMPTY, .val .null] [(.ref st_EMPTY)])) rfl hml.symm (argsL := []) (rest := []) (lenOf pd_3 rfl) rfl rfl (own_wr rfl rfl) (hb hby at_130)
 obtain ⟨rfl, N7q, e7⟩ := hQ7
 have N7 := Fr.app N6 N7q
 refine ⟨T7, _, some (.int 1), _, _, X7, hS0, (by rw [e7]; exact (Nat.le_trans hk0 K1.1)), (fun h => by cases h <;> rfl), ?_, (by rw [e7]; exact Ah1), hZ, fun fs hr => ?_⟩
 · show Q_law n0 _ _
   exact ⟨rfl, N7⟩
 refine t_iloadN 1 X0.here hx hby at_0 rfl rfl ?_
 refine t_iconst 2 (r := 3) X0.here hx hby at_1 (by decide) rfl ?_
 refine t_iand 3 (r := 1) X0.here hx hby at_2 hln rfl ?_
 refine t_istore (pc' := 5) (L' := #[vi p0, vi p1, vi p2, vi p3, vi 1, .unset, .unset, .unset, .unset, .unset, .unset]) X0.here hx hby at_3 rfl rfl ?_
 refine t_iloadN 6 X0.here hx hby at_5 rfl rfl ?_
 refine X0.ldcInt hx hown (mvT hZ (w0 hw)) (g := (mkF m 6 #[vi p0, vi p1, vi p2, vi p3, vi 1, .unset, .unset, .unset, .unset, .unset, .unset] [(.int p1)])) rfl (hb hby at_6) _ ?_
 refine t_iand 9 (r := (own_ch p1)) X0.here hx hby at_8 (Eq.refl (own_ch p1)) rfl ?_
 refine t_i2c 10 (r := (own_ch p1)) X0.here hx hby at_9 (own_c2d (own_m16a p1) (own_m16b p1)) rfl ?_
 refine t_istore (pc' := 12) (L' := #[vi p0, vi p1, vi p2, vi p3, vi 1, vi ((own_ch p1)), .unset, .unset, .unset, .unset, .unset]) X0.here hx hby at_10 rfl rfl ?_
 refine t_iloadN 13 X0.here hx hby at_12 rfl rfl ?_
 refine t_iconst 14 (r := 2) X0.here hx hby at_13 (by decide) rfl ?_
 refine t_iushr 15 X0.here hx hby at_14 rfl rfl ?_
 refine t_iconst 16 (r := 1) X0.here hx hby at_15 (by decide) rfl ?_
 refine t_iand 17 (r := 0) X0.here hx hby at_16 hbit rfl ?_
 refine t_ifYes (pc := 17) 80 X0.here hx hby at_17 (by decide) (by decide) (by decide) ?_
 refine t_iloadN 81 X0.here hx hby at_80 rfl rfl ?_
 refine X0.ldcInt hx hown (mvT hZ (w0 hw)) (g := (mkF m 81 #[vi p0, vi p1, vi p2, vi p3, vi 1, vi ((own_ch p1)), .unset, .unset, .unset, .unset, .unset] [(.int p2)])) rfl (hb hby at_81) _ ?_
 refine t_iand 84 (r := (own_ch p2)) X0.here hx hby at_83 (Eq.refl (own_ch p2)) rfl ?_
 refine t_i2c 85 (r := (own_ch p2)) X0.here hx hby at_84 (own_c2d (own_m16a p2) (own_m16b p2)) rfl ?_
 refine t_istore (pc' := 87) (L' := #[vi p0, vi p1, vi p2, vi p3, vi 1, vi ((own_ch p1)), vi ((own_ch p2)), .unset, .unset, .unset, .unset]) X0.here hx hby at_85 rfl rfl ?_
 refine t_iloadN 88 X0.here hx hby at_87 rfl rfl ?_
 refine X0.ldcInt hx hown (mvT hZ (w0 hw)) (g := (mkF m 88 #[vi p0, vi p1, vi p2, vi p3, vi 1, vi ((own_ch p1)), vi ((own_ch p2)), .unset, .unset, .unset, .unset] [(.int p3)])) rfl (hb hby at_88) _ ?_
 refine t_iand 91 (r := (own_ch p3)) X0.here hx hby at_90 (Eq.refl (own_ch p3)) rfl ?_
 refine t_i2c 92 (r := (own_ch p3)) X0.here hx hby at_91 (own_c2d (own_m16a p3) (own_m16b p3)) rfl ?_
 refine t_istore (pc' := 94) (L' := #[vi p0, vi p1, vi p2, vi p3, vi 1, vi ((own_ch p1)), vi ((own_ch p2)), vi ((own_ch p3)), .unset, .unset, .unset]) X0.here hx hby at_92 rfl rfl ?_
 refine t_iload 96 X0.here hx hby at_94 rfl rfl ?_
 refine t_iload 98 X0.here hx hby at_96 rfl rfl ?_
 refine t_iload 100 X0.here hx hby at_98 rfl rfl ?_
 refine t_iload 102 X0.here hx hby at_100 rfl rfl ?_
 refine st1 _ ?_
 refine t_astore (pc' := 107) (L' := #[vi p0, vi p1, vi p2, vi p3, vi 1, vi ((own_ch p1)), vi ((own_ch p2)), vi ((own_ch p3)), vr b5_5_1, .unset, .unset]) X1.here hx hby at_105 rfl rfl rfl ?_
 refine t_aload 109 X1.here hx hby at_107 rfl rfl rfl ?_
 refine st4 _ ?_
 refine t_astore (pc' := 114) (L' := #[vi p0, vi p1, vi p2, vi p3, vi 1, vi ((own_ch p1)), vi ((own_ch p2)), vi ((own_ch p3)), vr b5_5_1, vr st_EMPTY, .unset]) X4.here hx hby at_112 rfl rfl rfl ?_
 refine t_iload 116 X4.here hx hby at_114 rfl rfl ?_
 refine t_iload 118 X4.here hx hby at_116 rfl rfl ?_
 refine st6 _ ?_
 refine t_astore (pc' := 123) (L' := #[vi p0, vi p1, vi p2, vi p3, vi 1, vi ((own_ch p1)), vi ((own_ch p2)), vi ((own_ch p3)), vr b5_5_1, vr st_EMPTY, .val .null]) X6.here hx hby at_121 rfl rfl rfl ?_
 refine t_aload 125 X6.here hx hby at_123 rfl rfl rfl ?_
 refine t_ifnonnullNo 128 X6.here hx hby at_125 rfl ?_
 refine t_aload 130 X6.here hx hby at_128 rfl rfl rfl ?_
 refine st7 _ ?_
 refine t_ifNo 136 X7.here hx hby at_133 (by decide) rfl ?_
 refine t_iconst 137 (r := 1) X7.here hx hby at_136 (by decide) rfl ?_
 refine t_goto (pc := 137) 141 X7.here hx hby at_137 (by decide) (by decide) ?_
 exact retN X7 hx (t := .boolean) hret (by simp) (hb hby at_141) hr
theorem d289 : decode b11_ 25 = .ok (.iload_n 0, 1) := by decide +kernel
theorem d290 : decode b11_ 26 = .ok (.iconst 2, 1) := by decide +kernel
theorem d291 : decode b11_ 27 = .ok (.if_icmp .ne 22, 3) := by decide +kernel
theorem d292 : decode b11_ 30 = .ok (.new 35, 3) := by decide +kernel
theorem d293 : decode b11_ 33 = .ok (.dup, 1) := by decide +kernel
theorem d294 : decode b11_ 34 = .ok (.iconst 2, 1) := by decide +kernel
theorem d295 : decode b11_ 35 = .ok (.newarray .char, 2) := by decide +kernel
theorem d296 : decode b11_ 37 = .ok (.dup, 1) := by decide +kernel
theorem d297 : decode b11_ 38 = .ok (.iconst 0, 1) := by decide +kernel
theorem d298 : decode b11_ 39 = .ok (.iload_n 1, 1) := by decide +kernel
theorem d299 : decode b11_ 40 = .ok (.castore, 1) := by decide +kernel
theorem d300 : decode b11_ 41 = .ok (.dup, 1) := by decide +kernel
theorem d301 : decode b11_ 42 = .ok (.iconst 1, 1) := by decide +kernel
theorem d302 : decode b11_ 43 = .ok (.iload_n 2, 1) := by decide +kernel
theorem d303 : decode b11_ 44 = .ok (.castore, 1) := by decide +kernel
theorem d304 : decode b11_ 45 = .ok (.invokespecial 37, 3) := by decide +kernel
theorem d305 : decode b13_ 27 = .ok (.getstatic 38, 3) := by decide +kernel
theorem d306 : decode b13_ 30 = .ok (.ifCond .eq 28, 3) := by decide +kernel
theorem d307 : decode b13_ 33 = .ok (.aload_n 1, 1) := by decide +kernel
theorem d308 : decode b13_ 34 = .ok (.iload_n 2, 1) := by decide +kernel
theorem d309 : decode b13_ 35 = .ok (.iload_n 3, 1) := by decide +kernel
theorem d310 : decode b13_ 36 = .ok (.invokestatic 177, 3) := by decide +kernel
def w58 (hw : HW Z a0) := ow 58 hw rfl
abbrev b26_ := jdk_52_method_16_code
theorem d311 : decode b26_ 0 = .ok (.iload_n 2, 1) := by decide +kernel
theorem d312 : decode b26_ 1 = .ok (.newarray .byte, 2) := by decide +kernel
theorem d313 : decode b26_ 3 = .ok (.astore_n 3, 1) := by decide +kernel
theorem d314 : decode b26_ 4 = .ok (.aload_n 0, 1) := by decide +kernel
theorem d315 : decode b26_ 5 = .ok (.iload_n 1, 1) := by decide +kernel
theorem d316 : decode b26_ 6 = .ok (.aload_n 3, 1) := by decide +kernel
theorem d317 : decode b26_ 7 = .ok (.iconst 0, 1) := by decide +kernel
theorem d318 : decode b26_ 8 = .ok (.iload_n 2, 1) := by decide +kernel
theorem d319 : decode b26_ 9 = .ok (.invokestatic 115, 3) := by decide +kernel
def w62 (hw : HW Z a0) := ow 62 hw rfl
abbrev b27_ := jdk_52_method_21_code
theorem d320 : decode b27_ 0 = .ok (.iconst 0, 1) := by decide +kernel
theorem d321 : decode b27_ 1 = .ok (.istore 5, 2) := by decide +kernel
theorem d322 : decode b27_ 3 = .ok (.iload 5, 2) := by decide +kernel
theorem d323 : decode b27_ 5 = .ok (.iload 4, 2) := by decide +kernel
theorem d324 : decode b27_ 7 = .ok (.if_icmp .ge 37, 3) := by decide +kernel
theorem d325 : decode b27_ 10 = .ok (.aload_n 0, 1) := by decide +kernel
theorem d326 : decode b27_ 11 = .ok (.iload_n 1, 1) := by decide +kernel
theorem d327 : decode b27_ 12 = .ok (.caload, 1) := by decide +kernel
theorem d328 : decode b27_ 13 = .ok (.istore 6, 2) := by decide +kernel
theorem d329 : decode b27_ 15 = .ok (.iload 6, 2) := by decide +kernel
theorem d330 : decode b27_ 17 = .ok (.sipush 255, 3) := by decide +kernel
theorem d331 : decode b27_ 20 = .ok (.if_icmp .le 6, 3) := by decide +kernel
theorem d332 : decode b27_ 23 = .ok (.iload 5, 2) := by decide +kernel
theorem d333 : decode b27_ 25 = .ok (.ireturn, 1) := by decide +kernel
theorem ef_15 (x0 : Addr) (x1 : Int32) (x2 : Addr) (x3 x4 : Int32) (m : MethodId) : entryFrame m #[(.ref x0), (.int x1), (.ref x2), (.int x3), (.int x4)] 7 = mkF m 0 #[.val (.ref x0), .val (.int x1), .val (.ref x2), .val (.int x3), .val (.int x4), .unset, .unset] [] := by first | (simp [entryFrame, mkF, argsToLocals, Value.category]; done) | rfl
abbrev y26_compress : MethodName := ⟨"java/lang/StringUTF16", "compress", "([CI[BII)I"⟩
def Q_r44_compress (Z : State) (o0 o2 : Addr) (i_1 i_2 : Int32) (k_o0 : ClassId) (h0 : Heap) (n0 : Nat) (v : Option Value) (h : Heap) (L : List Loc) : Prop := v = some z0 ∧ Fr n0 L ∧ h = h0
theorem r44_compress (l : Launch) (Z : State) (a0 : Array Value) (hw : HW Z a0) (ws : List Jvm.Cond) (o0 o2 : Addr) (i_1 i_2 : Int32) (k_o0 : ClassId) (h0 : Heap) (n0 : Nat) (Z0 : n0 ≤ h0.size) (V_o0 : Arv Z h0 o0 k_o0 .char 2 [(.int i_1), (.int i_2)] z0) (hp0 : (255 : Int32) < i_1) :
    MF l Z y26_compress b27_ 7 (some .int) ws ⟨0, 0, 0, 0⟩ #[(.ref o0), z0, (.ref o2), z0, (.int 2)] h0 (Q_r44_compress Z o0 o2 i_1 i_2 k_o0 h0 n0) := by
 refine own_body (plainFor_of_name pn_StringUTF16906) (ef_15 o0 (0 : Int32) o2 (0 : Int32) (2 : Int32)) (by decide) (by decide) ?_
 intro p e s m below meth c s₁ hx hby hml hown hnm hret hZ hh e0 X0
 have N0 := Fr.nil n0
 refine ⟨s₁, _, some z0, X0, (fun h => by cases h <;> rfl), ?_, fun fs hr => ?_⟩
 · show Q_r44_compress Z o0 o2 i_1 i_2 k_o0 h0 n0 _ s₁.heap _
   rw [e0]
   exact ⟨rfl, N0, rfl⟩
 refine t_iconst 1 (r := 0) X0.here hx hby d320 (by decide) rfl ?_
 refine t_istore (pc' := 3) (L' := #[vr o0, vi 0, vr o2, vi 0, vi 2, vi 0, .unset]) X0.here hx hby d321 rfl rfl ?_
 refine t_iload 5 X0.here hx hby d322 rfl rfl ?_
 refine t_iload 7 X0.here hx hby d323 rfl rfl ?_
 refine t_icmpNo 10 X0.here hx hby d324 (by decide) rfl ?_
 refine t_aloadN 11 X0.here hx hby d325 rfl rfl rfl ?_
 refine t_iloadN 12 X0.here hx hby d326 rfl rfl ?_
 refine own_aldC (pc' := 13) X0 hx hZ e0 V_o0 (j := 0) (v := (.int i_1)) (by decide) rfl (hb hby d327) rfl ?_
 refine t_istore (pc' := 15) (L' := #[vr o0, vi 0, vr o2, vi 0, vi 2, vi 0, vi i_1]) X0.here hx hby d328 rfl rfl ?_
 refine t_iload 17 X0.here hx hby d329 rfl rfl ?_
 refine t_sipush 20 (r := 255) X0.here hx hby d330 (by decide) rfl ?_
 refine t_icmpNo 23 X0.here hx hby d331 (tlt hp0).2.2.2 rfl ?_
 refine t_iload 25 X0.here hx hby d332 rfl rfl ?_
 exact retI X0 hx hret (hb hby d333) hr
def w64 (hw : HW Z a0) := ow 64 hw rfl
theorem pd_22 : parseMethodDescriptor "([CI[BII)I" = some ⟨[(.array .char), .int, (.array .byte), .int, .int], some .int⟩ := by decide +kernel
def w63 (hw : HW Z a0) := ow 63 hw rfl
theorem d334 : decode b26_ 12 = .ok (.istore 4, 2) := by decide +kernel
theorem d335 : decode b26_ 14 = .ok (.iload 4, 2) := by decide +kernel
theorem d336 : decode b26_ 16 = .ok (.iload_n 2, 1) := by decide +kernel
theorem d337 : decode b26_ 17 = .ok (.if_icmp .eq 40, 3) := by decide +kernel
theorem d338 : decode b26_ 20 = .ok (.aload_n 0, 1) := by decide +kernel
theorem d339 : decode b26_ 21 = .ok (.iload_n 1, 1) := by decide +kernel
theorem d340 : decode b26_ 22 = .ok (.iload_n 2, 1) := by decide +kernel
theorem d341 : decode b26_ 23 = .ok (.invokestatic 119, 3) := by decide +kernel
def w68 (hw : HW Z a0) := ow 68 hw rfl
abbrev b28_ := jdk_52_method_14_code
theorem d342 : decode b28_ 0 = .ok (.iload_n 2, 1) := by decide +kernel
theorem d343 : decode b28_ 1 = .ok (.invokestatic 107, 3) := by decide +kernel
def w71 (hw : HW Z a0) := ow 71 hw rfl
abbrev b29_ := jdk_52_method_2_code
theorem d344 : decode b29_ 0 = .ok (.iload_n 0, 1) := by decide +kernel
theorem d345 : decode b29_ 1 = .ok (.invokestatic 11, 3) := by decide +kernel
def w74 (hw : HW Z a0) := ow 74 hw rfl
abbrev b30_ := jdk_52_method_3_code
theorem d346 : decode b30_ 0 = .ok (.iload_n 0, 1) := by decide +kernel
theorem d347 : decode b30_ 1 = .ok (.ifCond .ge 11, 3) := by decide +kernel
theorem d348 : decode b30_ 12 = .ok (.iload_n 0, 1) := by decide +kernel
theorem d349 : decode b30_ 13 = .ok (.ldc 20, 2) := by decide +kernel
def w77 (hw : HW Z a0) := ow 77 hw rfl
theorem d350 : decode b30_ 15 = .ok (.if_icmp .lt 40, 3) := by decide +kernel
theorem d351 : decode b30_ 55 = .ok (.iload_n 0, 1) := by decide +kernel
theorem d352 : decode b30_ 56 = .ok (.iconst 1, 1) := by decide +kernel
theorem d353 : decode b30_ 57 = .ok (.ishl, 1) := by decide +kernel
theorem d354 : decode b30_ 58 = .ok (.ireturn, 1) := by decide +kernel
abbrev y27_newBytesLength : MethodName := ⟨"java/lang/StringUTF16", "newBytesLength", "(I)I"⟩
def Q_r47_newBytesLength (Z : State)  (h0 : Heap) (n0 : Nat) (v : Option Value) (h : Heap) (L : List Loc) : Prop := v = some (.int 4) ∧ Fr n0 L ∧ h = h0
theorem r47_newBytesLength (l : Launch) (Z : State) (a0 : Array Value) (hw : HW Z a0) (ws : List Jvm.Cond)  (h0 : Heap) (n0 : Nat) (Z0 : n0 ≤ h0.size) :
    MF l Z y27_newBytesLength b30_ 1 (some .int) ws ⟨0, 0, 0, 0⟩ #[(.int 2)] h0 (Q_r47_newBytesLength Z  h0 n0) := by
 refine own_body (plainFor_of_name pn_StringUTF16906) (ef_10 (2 : Int32)) (by decide) (by decide) ?_
 intro p e s m below meth c s₁ hx hby hml hown hnm hret hZ hh e0 X0
 have N0 := Fr.nil n0
 refine ⟨s₁, _, some (.int 4), X0, (fun h => by cases h <;> rfl), ?_, fun fs hr => ?_⟩
 · show Q_r47_newBytesLength Z  h0 n0 _ s₁.heap _
   rw [e0]
   exact ⟨rfl, N0, rfl⟩
 refine t_iloadN 1 X0.here hx hby d346 rfl rfl ?_
 refine t_ifYes (pc := 1) 12 X0.here hx hby d347 (by decide) (by decide) (by decide) ?_
 refine t_iloadN 13 X0.here hx hby d348 rfl rfl ?_
 refine X0.ldcInt hx hown (mvT hZ (w77 hw)) (g := (mkF m 13 #[vi 2] [(.int 2)])) rfl (hb hby d349) _ ?_
 refine t_icmpYes (pc := 15) 55 X0.here hx hby d350 (by decide) (by decide) (by decide) ?_
 refine t_iloadN 56 X0.here hx hby d351 rfl rfl ?_
 refine t_iconst 57 (r := 1) X0.here hx hby d352 (by decide) rfl ?_
 refine t_ishl 58 (r := 4) X0.here hx hby d353 (by decide : ((2 : Int32) <<< ((1 : Int32) &&& 31)) = (4 : Int32)) rfl ?_
 exact retI X0 hx hret (hb hby d354) hr
def w76 (hw : HW Z a0) := ow 76 hw rfl
theorem pd_23 : parseMethodDescriptor "(I)I" = some ⟨[.int], some .int⟩ := by decide +kernel
def w75 (hw : HW Z a0) := ow 75 hw rfl
theorem d355 : decode b29_ 4 = .ok (.newarray .byte, 2) := by decide +kernel
theorem d356 : decode b29_ 6 = .ok (.areturn, 1) := by decide +kernel
abbrev y28_newBytesFor : MethodName := ⟨"java/lang/StringUTF16", "newBytesFor", "(I)[B"⟩
def Q_r46_newBytesFor (Z : State)  (h0 : Heap) (n0 : Nat) (v : Option Value) (h : Heap) (L : List Loc) : Prop := ∃ b2 : Addr, ∃ k2 : ClassId, v = some (.ref b2) ∧ Fr n0 L ∧ KL h0 h [] ∧ h0.size ≤ b2 ∧ Arv Z h b2 k2 .byte 4 [z0, z0, z0, z0] z0
theorem r46_newBytesFor (l : Launch) (Z : State) (a0 : Array Value) (hw : HW Z a0) (ws : List Jvm.Cond)  (h0 : Heap) (n0 : Nat) (Z0 : n0 ≤ h0.size) :
    MF l Z y28_newBytesFor b29_ 1 (some (.array .byte)) ws ⟨1, 1, 4, 12⟩ #[(.int 2)] h0 (Q_r46_newBytesFor Z  h0 n0) := by
 refine own_body (plainFor_of_name pn_StringUTF16906) (ef_10 (2 : Int32)) (by decide) (by decide) ?_
 intro p e s m below meth c s₁ hx hby hml hown hnm hret hZ hh e0 X0
 have N0 := Fr.nil n0
 obtain ⟨_, T1, L1, X1, hQ1, st1⟩ := own_static X0 hx hZ hown (w74 hw) (w75 hw) (w60 hw) (w76 hw) (by decide) (r47_newBytesLength l Z a0 hw []  h0 n0 Z0) e0 (W := 0) (by decide) (g := (mkF m 1 #[vi 2] [(.int 2)])) rfl hml.symm (argsL := [(.int 2)]) (rest := []) (lenOf pd_23 rfl) rfl rfl (own_wr rfl rfl) (hb hby d345)
 obtain ⟨rfl, N1q, e1⟩ := hQ1
 have N1 := Fr.app N0 N1q
 obtain ⟨T2, h2, k2, X2, e2, E2, A2, st2⟩ := newP (aty := .byte) X1 hx hZ (w20 hw) e1 (g := (mkF m 4 #[vi 2] [(.int 4)])) rfl (hb hby d355) rfl (by decide) (cap := 4) (by decide) (by decide) (by decide) (by decide)
 obtain ⟨b2, g2⟩ : ∃ z, z = h0.size := ⟨_, rfl⟩
 rw [← g2] at A2 st2
 have ge_b2 : h0.size ≤ b2 := Nat.le_of_eq g2.symm
 have K2 := KL.ofE E2
 have V2 : Arv Z h2 b2 k2 .byte 4 [z0, z0, z0, z0] z0 := (Arv.new A2 (by decide)).pad (pad_rep [] z0 4)
 have C0 := (KL.refl h0 []).trans K2 na0
 refine ⟨T2, _, some (.ref b2), X2, (fun h => by cases h <;> rfl), ?_, fun fs hr => ?_⟩
 · show Q_r46_newBytesFor Z  h0 n0 _ T2.heap _
   rw [e2]
   exact ⟨b2, k2, rfl, N1, C0, ge_b2, V2⟩
 refine t_iloadN 1 X0.here hx hby d344 rfl rfl ?_
 refine st1 _ ?_
 refine st2 _ ?_
 jvm_step X2.here [X2.here.top, hx, (hb hby d356), X2.method', hret, Value.isRef, FieldType.isReference]
 first | (intro acts; rw [hr _ acts rfl rfl rfl]) | rw [hr _ _ rfl rfl rfl]
 exact Steps.refl _
def w73 (hw : HW Z a0) := ow 73 hw rfl
theorem pd_24 : parseMethodDescriptor "(I)[B" = some ⟨[.int], some (.array .byte)⟩ := by decide +kernel
def w72 (hw : HW Z a0) := ow 72 hw rfl
theorem d357 : decode b28_ 4 = .ok (.astore_n 3, 1) := by decide +kernel
theorem d358 : decode b28_ 5 = .ok (.iconst 0, 1) := by decide +kernel
theorem d359 : decode b28_ 6 = .ok (.istore 4, 2) := by decide +kernel
theorem d360 : decode b28_ 8 = .ok (.iload 4, 2) := by decide +kernel
theorem d361 : decode b28_ 10 = .ok (.iload_n 2, 1) := by decide +kernel
theorem d362 : decode b28_ 11 = .ok (.if_icmp .ge 21, 3) := by decide +kernel
theorem d363 : decode b28_ 14 = .ok (.aload_n 3, 1) := by decide +kernel
theorem d364 : decode b28_ 15 = .ok (.iload 4, 2) := by decide +kernel
theorem d365 : decode b28_ 17 = .ok (.aload_n 0, 1) := by decide +kernel
theorem d366 : decode b28_ 18 = .ok (.iload_n 1, 1) := by decide +kernel
theorem d367 : decode b28_ 19 = .ok (.caload, 1) := by decide +kernel
theorem d368 : decode b28_ 20 = .ok (.invokestatic 111, 3) := by decide +kernel
def WS_r48_putChar (Z : State) (o0 : Addr) : List (Addr × Nat) := [(o0, (0 : Int32).toNatClampNeg), (o0, (1 : Int32).toNatClampNeg)]
def Q_r48_putChar (Z : State) (o0 : Addr) (i_1 : Int32) (k_o0 : ClassId) (h0 : Heap) (n0 : Nat) (v : Option Value) (h : Heap) (L : List Loc) : Prop := v = none ∧ Fr n0 L ∧ KL h0 h (WS_r48_putChar Z o0) ∧ Arv Z h o0 k_o0 .byte 4 [(.int (i_1.toInt8.toInt32)), (.int ((i_1 >>> ((8 : Int32) &&& 31)).toInt8.toInt32)), z0, z0] z0
theorem r48_putChar (l : Launch) (Z : State) (a0 : Array Value) (hw : HW Z a0) (ws : List Jvm.Cond) (o0 : Addr) (i_1 : Int32) (k_o0 : ClassId) (h0 : Heap) (n0 : Nat) (Z0 : n0 ≤ h0.size) (S__assertionsDisabled : Sa5 Z (.int 1)) (O0 : Old Z n0 h0) (S_HI_BYTE_SHIFT : Sa6 Z z0) (V_o0 : Arv Z h0 o0 k_o0 .byte 4 [z0, z0, z0, z0] z0) (g_o0 : n0 ≤ o0) (S_LO_BYTE_SHIFT : Sa7 Z (.int 8)) :
    MF l Z y20_putChar b21_ 3 none ws ⟨0, 0, 0, 0⟩ #[(.ref o0), z0, (.int i_1)] h0 (Q_r48_putChar Z o0 i_1 k_o0 h0 n0) := by
 refine own_body (plainFor_of_name pn_StringUTF16906) (ef_12 o0 (0 : Int32) i_1) (by decide) (by decide) ?_
 intro p e s m below meth c s₁ hx hby hml hown hnm hret hZ hh e0 X0
 have N0 := Fr.nil n0
 obtain ⟨T2, X2, e2, st2⟩ := getS2 X0 hx hZ hown (host := "") (Or.inl (w81 hw)) Via.refl e0 (Sta.ext O0.2 S__assertionsDisabled) (g := (mkF m 0 #[vr o0, vi 0, vi i_1] [])) rfl (hb hby d215)
 obtain ⟨T3, X3, e3, st3⟩ := getS2 X2 hx hZ hown (host := "") (Or.inl (w82 hw)) Via.refl e2 (Sta.ext O0.2 S_HI_BYTE_SHIFT) (g := (mkF m 38 #[vr o0, vi 1, vi i_1] [(.int i_1), z0, (.ref o0)])) rfl (hb hby d225)
 obtain ⟨T4, h4, X4, e4, W4, V4, st4⟩ := own_astB X3 hx hZ e3 V_o0 (j := 0) (by decide) 0 rfl (Nat.le_of_ble_eq_true rfl) (g := (mkF m 43 #[vr o0, vi 1, vi i_1] [(.int (i_1.toInt8.toInt32)), z0, (.ref o0)])) rfl rfl (hb hby d228)
 rw [show (nar .byte (i_1.toInt8.toInt32)) = (i_1.toInt8.toInt32) from (own_narb _)] at V4
 have K4 := KL.ofW W4
 replace V4 : Arv Z h4 o0 k_o0 .byte 4 [(.int (i_1.toInt8.toInt32)), z0, z0, z0] z0 := V4
 have N4 := Fr.snoc X4 N0 g_o0
 have f5 := (kOld K4 O0 (naG g_o0 na0))
 obtain ⟨T6, X6, e6, st6⟩ := getS2 X4 hx hZ hown (host := "") (Or.inl (w83 hw)) Via.refl e4 (Sta.ext f5.2 S_LO_BYTE_SHIFT) (g := (mkF m 47 #[vr o0, vi 1, vi i_1] [(.int i_1), (.int 1), (.ref o0)])) rfl (hb hby d232)
 obtain ⟨T7, h7, X7, e7, W7, V7, st7⟩ := own_astB X6 hx hZ e6 V4 (j := 1) (by decide) 1 rfl (Nat.le_of_ble_eq_true rfl) (g := (mkF m 52 #[vr o0, vi 1, vi i_1] [(.int ((i_1 >>> ((8 : Int32) &&& 31)).toInt8.toInt32)), (.int 1), (.ref o0)])) rfl rfl (hb hby d235)
 rw [show (nar .byte ((i_1 >>> ((8 : Int32) &&& 31)).toInt8.toInt32)) = ((i_1 >>> ((8 : Int32) &&& 31)).toInt8.toInt32) from (own_narb _)] at V7
 have K7 := KL.ofW W7
 replace V7 : Arv Z h7 o0 k_o0 .byte 4 [(.int (i_1.toInt8.toInt32)), (.int ((i_1 >>> ((8 : Int32) &&& 31)).toInt8.toInt32)), z0, z0] z0 := V7
 have N7 := Fr.snoc X7 N4 g_o0
 have C0 := (KL.refl h0 (WS_r48_putChar Z o0)).trans K4 (naO (own_mi 0 rfl) na0)
 have C1 := C0.trans K7 (naO (own_mi 1 rfl) na0)
 refine ⟨T7, _, none, X7, (fun h => by cases h <;> rfl), ?_, fun fs hr => ?_⟩
 · show Q_r48_putChar Z o0 i_1 k_o0 h0 n0 _ T7.heap _
   rw [e7]
   exact ⟨rfl, N7, C1, V7⟩
 refine st2 _ ?_
 refine t_ifYes (pc := 3) 28 X2.here hx hby d216 (by decide) (by decide) (by decide) ?_
 refine t_iloadN 29 X2.here hx hby d217 rfl rfl ?_
 refine t_iconst 30 (r := 1) X2.here hx hby d218 (by decide) rfl ?_
 refine t_ishl 31 (r := 0) X2.here hx hby d219 (by decide : ((0 : Int32) <<< ((1 : Int32) &&& 31)) = (0 : Int32)) rfl ?_
 refine t_istoreN (pc' := 32) (L' := #[vr o0, vi 0, vi i_1]) X2.here hx hby d220 rfl rfl ?_
 refine t_aloadN 33 X2.here hx hby d221 rfl rfl rfl ?_
 refine t_iloadN 34 X2.here hx hby d222 rfl rfl ?_
 refine t_iinc (pc' := 37) (L' := #[vr o0, vi 1, vi i_1]) X2.here hx hby d223 rfl (by first | rfl | decide) rfl ?_
 refine t_iloadN 38 X2.here hx hby d224 rfl rfl ?_
 refine st3 _ ?_
 refine t_ishr 42 (r := i_1) X3.here hx hby d226 (own_shr0 _) rfl ?_
 refine t_i2b 43 X3.here hx hby d227 rfl rfl ?_
 refine st4 _ ?_
 refine t_aloadN 45 X4.here hx hby d229 rfl rfl rfl ?_
 refine t_iloadN 46 X4.here hx hby d230 rfl rfl ?_
 refine t_iloadN 47 X4.here hx hby d231 rfl rfl ?_
 refine st6 _ ?_
 refine t_ishr 51 X6.here hx hby d233 rfl rfl ?_
 refine t_i2b 52 X6.here hx hby d234 rfl rfl ?_
 refine st7 _ ?_
 exact X7.returnOut hx hret (hb hby d236) hr
theorem d369 : decode b28_ 23 = .ok (.iinc 1 1, 3) := by decide +kernel
theorem d370 : decode b28_ 26 = .ok (.iinc 4 1, 3) := by decide +kernel
theorem d371 : decode b28_ 29 = .ok (.goto (-21), 3) := by decide +kernel
def WS_r49_putChar (Z : State) (o0 : Addr) : List (Addr × Nat) := [(o0, (2 : Int32).toNatClampNeg), (o0, (3 : Int32).toNatClampNeg)]
def Q_r49_putChar (Z : State) (o0 : Addr) (i_1 i_4 i_5 : Int32) (k_o0 : ClassId) (h0 : Heap) (n0 : Nat) (v : Option Value) (h : Heap) (L : List Loc) : Prop := v = none ∧ Fr n0 L ∧ KL h0 h (WS_r49_putChar Z o0) ∧ Arv Z h o0 k_o0 .byte 4 [(.int i_4), (.int i_5), (.int (i_1.toInt8.toInt32)), (.int ((i_1 >>> ((8 : Int32) &&& 31)).toInt8.toInt32))] z0
theorem r49_putChar (l : Launch) (Z : State) (a0 : Array Value) (hw : HW Z a0) (ws : List Jvm.Cond) (o0 : Addr) (i_1 i_4 i_5 : Int32) (k_o0 : ClassId) (h0 : Heap) (n0 : Nat) (Z0 : n0 ≤ h0.size) (S__assertionsDisabled : Sa5 Z (.int 1)) (O0 : Old Z n0 h0) (S_HI_BYTE_SHIFT : Sa6 Z z0) (V_o0 : Arv Z h0 o0 k_o0 .byte 4 [(.int i_4), (.int i_5), z0, z0] z0) (g_o0 : n0 ≤ o0) (S_LO_BYTE_SHIFT : Sa7 Z (.int 8)) :
    MF l Z y20_putChar b21_ 3 none ws ⟨0, 0, 0, 0⟩ #[(.ref o0), (.int 1), (.int i_1)] h0 (Q_r49_putChar Z o0 i_1 i_4 i_5 k_o0 h0 n0) := by
 refine own_body (plainFor_of_name pn_StringUTF16906) (ef_12 o0 (1 : Int32) i_1) (by decide) (by decide) ?_
 intro p e s m below meth c s₁ hx hby hml hown hnm hret hZ hh e0 X0
 have N0 := Fr.nil n0
 obtain ⟨T2, X2, e2, st2⟩ := getS2 X0 hx hZ hown (host := "") (Or.inl (w81 hw)) Via.refl e0 (Sta.ext O0.2 S__assertionsDisabled) (g := (mkF m 0 #[vr o0, vi 1, vi i_1] [])) rfl (hb hby d215)
 obtain ⟨T3, X3, e3, st3⟩ := getS2 X2 hx hZ hown (host := "") (Or.inl (w82 hw)) Via.refl e2 (Sta.ext O0.2 S_HI_BYTE_SHIFT) (g := (mkF m 38 #[vr o0, vi 3, vi i_1] [(.int i_1), (.int 2), (.ref o0)])) rfl (hb hby d225)
 obtain ⟨T6, h6, X6, e6, W6, V6, st6⟩ := own_astB X3 hx hZ e3 V_o0 (j := 2) (by decide) 2 rfl (Nat.le_of_ble_eq_true rfl) (g := (mkF m 43 #[vr o0, vi 3, vi i_1] [(.int (i_1.toInt8.toInt32)), (.int 2), (.ref o0)])) rfl rfl (hb hby d228)
 rw [show (nar .byte (i_1.toInt8.toInt32)) = (i_1.toInt8.toInt32) from (own_narb _)] at V6
 have K6 := KL.ofW W6
 replace V6 : Arv Z h6 o0 k_o0 .byte 4 [(.int i_4), (.int i_5), (.int (i_1.toInt8.toInt32)), z0] z0 := V6
 have N6 := Fr.snoc X6 N0 g_o0
 have f7 := (kOld K6 O0 (naG g_o0 na0))
 obtain ⟨T8, X8, e8, st8⟩ := getS2 X6 hx hZ hown (host := "") (Or.inl (w83 hw)) Via.refl e6 (Sta.ext f7.2 S_LO_BYTE_SHIFT) (g := (mkF m 47 #[vr o0, vi 3, vi i_1] [(.int i_1), (.int 3), (.ref o0)])) rfl (hb hby d232)
 obtain ⟨T9, h9, X9, e9, W9, V9, st9⟩ := own_astB X8 hx hZ e8 V6 (j := 3) (by decide) 3 rfl (Nat.le_of_ble_eq_true rfl) (g := (mkF m 52 #[vr o0, vi 3, vi i_1] [(.int ((i_1 >>> ((8 : Int32) &&& 31)).toInt8.toInt32)), (.int 3), (.ref o0)])) rfl rfl (hb hby d235)
 rw [show (nar .byte ((i_1 >>> ((8 : Int32) &&& 31)).toInt8.toInt32)) = ((i_1 >>> ((8 : Int32) &&& 31)).toInt8.toInt32) from (own_narb _)] at V9
 have K9 := KL.ofW W9
 replace V9 : Arv Z h9 o0 k_o0 .byte 4 [(.int i_4), (.int i_5), (.int (i_1.toInt8.toInt32)), (.int ((i_1 >>> ((8 : Int32) &&& 31)).toInt8.toInt32))] z0 := V9
 have N9 := Fr.snoc X9 N6 g_o0
 have C0 := (KL.refl h0 (WS_r49_putChar Z o0)).trans K6 (naO (own_mi 0 rfl) na0)
 have C1 := C0.trans K9 (naO (own_mi 1 rfl) na0)
 refine ⟨T9, _, none, X9, (fun h => by cases h <;> rfl), ?_, fun fs hr => ?_⟩
 · show Q_r49_putChar Z o0 i_1 i_4 i_5 k_o0 h0 n0 _ T9.heap _
   rw [e9]
   exact ⟨rfl, N9, C1, V9⟩
 refine st2 _ ?_
 refine t_ifYes (pc := 3) 28 X2.here hx hby d216 (by decide) (by decide) (by decide) ?_
 refine t_iloadN 29 X2.here hx hby d217 rfl rfl ?_
 refine t_iconst 30 (r := 1) X2.here hx hby d218 (by decide) rfl ?_
 refine t_ishl 31 (r := 2) X2.here hx hby d219 (by decide : ((1 : Int32) <<< ((1 : Int32) &&& 31)) = (2 : Int32)) rfl ?_
 refine t_istoreN (pc' := 32) (L' := #[vr o0, vi 2, vi i_1]) X2.here hx hby d220 rfl rfl ?_
 refine t_aloadN 33 X2.here hx hby d221 rfl rfl rfl ?_
 refine t_iloadN 34 X2.here hx hby d222 rfl rfl ?_
 refine t_iinc (pc' := 37) (L' := #[vr o0, vi 3, vi i_1]) X2.here hx hby d223 rfl (by first | rfl | decide) rfl ?_
 refine t_iloadN 38 X2.here hx hby d224 rfl rfl ?_
 refine st3 _ ?_
 refine t_ishr 42 (r := i_1) X3.here hx hby d226 (own_shr0 _) rfl ?_
 refine t_i2b 43 X3.here hx hby d227 rfl rfl ?_
 refine st6 _ ?_
 refine t_aloadN 45 X6.here hx hby d229 rfl rfl rfl ?_
 refine t_iloadN 46 X6.here hx hby d230 rfl rfl ?_
 refine t_iloadN 47 X6.here hx hby d231 rfl rfl ?_
 refine st8 _ ?_
 refine t_ishr 51 X8.here hx hby d233 rfl rfl ?_
 refine t_i2b 52 X8.here hx hby d234 rfl rfl ?_
 refine st9 _ ?_
 exact X9.returnOut hx hret (hb hby d236) hr
theorem d372 : decode b28_ 32 = .ok (.aload_n 3, 1) := by decide +kernel
theorem d373 : decode b28_ 33 = .ok (.areturn, 1) := by decide +kernel
theorem ef_16 (x0 : Addr) (x1 x2 : Int32) (m : MethodId) : entryFrame m #[(.ref x0), (.int x1), (.int x2)] 5 = mkF m 0 #[.val (.ref x0), .val (.int x1), .val (.int x2), .unset, .unset] [] := by first | (simp [entryFrame, mkF, argsToLocals, Value.category]; done) | rfl
abbrev y29_toBytes : MethodName := ⟨"java/lang/StringUTF16", "toBytes", "([CII)[B"⟩
def Q_r45_toBytes (Z : State) (o0 : Addr) (i_3 i_4 : Int32) (k_o0 : ClassId) (h0 : Heap) (n0 : Nat) (v : Option Value) (h : Heap) (L : List Loc) : Prop := ∃ b2_1 : Addr, ∃ k2_1 : ClassId, v = some (.ref b2_1) ∧ Fr n0 L ∧ KL h0 h [] ∧ h0.size ≤ b2_1 ∧ Arv Z h b2_1 k2_1 .byte 4 [(.int (i_3.toInt8.toInt32)), (.int ((i_3 >>> ((8 : Int32) &&& 31)).toInt8.toInt32)), (.int (i_4.toInt8.toInt32)), (.int ((i_4 >>> ((8 : Int32) &&& 31)).toInt8.toInt32))] z0
theorem r45_toBytes (l : Launch) (Z : State) (a0 : Array Value) (hw : HW Z a0) (ws : List Jvm.Cond) (o0 : Addr) (i_3 i_4 : Int32) (k_o0 : ClassId) (h0 : Heap) (n0 : Nat) (Z0 : n0 ≤ h0.size) (V_o0 : Arv Z h0 o0 k_o0 .char 2 [(.int i_3), (.int i_4)] z0) (S__assertionsDisabled : Sa5 Z (.int 1)) (S_HI_BYTE_SHIFT : Sa6 Z z0) (S_LO_BYTE_SHIFT : Sa7 Z (.int 8)) (O0 : Old Z n0 h0) :
    MF l Z y29_toBytes b28_ 5 (some (.array .byte)) ws ⟨2, 1, 4, 24⟩ #[(.ref o0), z0, (.int 2)] h0 (Q_r45_toBytes Z o0 i_3 i_4 k_o0 h0 n0) := by
 refine own_body (plainFor_of_name pn_StringUTF16906) (ef_16 o0 (0 : Int32) (2 : Int32)) (by decide) (by decide) ?_
 intro p e s m below meth c s₁ hx hby hml hown hnm hret hZ hh e0 X0
 have N0 := Fr.nil n0
 obtain ⟨_, T1, L1, X1, hQ1, st1⟩ := own_static X0 hx hZ hown (w71 hw) (w72 hw) (w60 hw) (w73 hw) (by decide) (r46_newBytesFor l Z a0 hw []  h0 n0 Z0) e0 (W := 0) (by decide) (g := (mkF m 1 #[vr o0, vi 0, vi 2, .unset, .unset] [(.int 2)])) rfl hml.symm (argsL := [(.int 2)]) (rest := []) (lenOf pd_24 rfl) rfl rfl (own_wr rfl rfl) (hb hby d343)
 obtain ⟨b2_1, k2_1, rfl, N1q, K1, Q1_0, Q1_1⟩ := hQ1
 have N1 := Fr.app N0 N1q
 have f5 := (kArv K1 V_o0 na0)
 have f7 := (kOld K1 O0 na0)
 have gg8 := Nat.le_trans Z0 Q1_0
 obtain ⟨_, T6, L6, X6, hQ6, st6⟩ := own_static X1 hx hZ hown (w78 hw) (w79 hw) (w60 hw) (w80 hw) (by decide) (r48_putChar l Z a0 hw [] b2_1 i_3 k2_1 T1.heap n0 (Nat.le_trans Z0 K1.1) S__assertionsDisabled f7 S_HI_BYTE_SHIFT Q1_1 gg8 S_LO_BYTE_SHIFT) rfl (W := 0) (by decide) (g := (mkF m 20 #[vr o0, vi 0, vi 2, vr b2_1, vi 0] [(.int i_3), z0, (.ref b2_1)])) rfl hml.symm (argsL := [(.ref b2_1), z0, (.int i_3)]) (rest := []) (lenOf pd_19 rfl) rfl rfl (own_wr rfl rfl) (hb hby d368)
 obtain ⟨rfl, N6q, K6, Q6_0⟩ := hQ6
 have N6 := Fr.app N1 N6q
 have lt_o0 : o0 < h0.size := Arv.lt V_o0
 have ne9 := lt_ne lt_o0 Q1_0
 have f10 := (kArv K6 f5 (naN (Ne.symm ne9) (naN (Ne.symm ne9) na0)))
 have f12 := (kOld K6 f7 (naG gg8 (naG gg8 na0)))
 have sz_0_2 := (Nat.le_trans K1.1 K6.1)
 obtain ⟨_, T11, L11, X11, hQ11, st11⟩ := own_static X6 hx hZ hown (w78 hw) (w79 hw) (w60 hw) (w80 hw) (by decide) (r49_putChar l Z a0 hw [] b2_1 i_4 (i_3.toInt8.toInt32) ((i_3 >>> ((8 : Int32) &&& 31)).toInt8.toInt32) k2_1 T6.heap n0 (Nat.le_trans Z0 sz_0_2) S__assertionsDisabled f12 S_HI_BYTE_SHIFT Q6_0 gg8 S_LO_BYTE_SHIFT) rfl (W := 0) (by decide) (g := (mkF m 20 #[vr o0, vi 1, vi 2, vr b2_1, vi 1] [(.int i_4), (.int 1), (.ref b2_1)])) rfl hml.symm (argsL := [(.ref b2_1), (.int 1), (.int i_4)]) (rest := []) (lenOf pd_19 rfl) rfl rfl (own_wr rfl rfl) (hb hby d368)
 obtain ⟨rfl, N11q, K11, Q11_0⟩ := hQ11
 have N11 := Fr.app N6 N11q
 have C0 := (KL.refl h0 []).trans K1 na0
 have C1 := C0.trans K6 (naO (Or.inr Q1_0) (naO (Or.inr Q1_0) na0))
 have C2 := C1.trans K11 (naO (Or.inr Q1_0) (naO (Or.inr Q1_0) na0))
 refine ⟨T11, _, some (.ref b2_1), X11, (fun h => by cases h <;> rfl), ?_, fun fs hr => ?_⟩
 · show Q_r45_toBytes Z o0 i_3 i_4 k_o0 h0 n0 _ T11.heap _
   exact ⟨b2_1, k2_1, rfl, N11, C2, Q1_0, Q11_0⟩
 refine t_iloadN 1 X0.here hx hby d342 rfl rfl ?_
 refine st1 _ ?_
 refine t_astoreN (pc' := 5) (L' := #[vr o0, vi 0, vi 2, vr b2_1, .unset]) X1.here hx hby d357 rfl rfl rfl ?_
 refine t_iconst 6 (r := 0) X1.here hx hby d358 (by decide) rfl ?_
 refine t_istore (pc' := 8) (L' := #[vr o0, vi 0, vi 2, vr b2_1, vi 0]) X1.here hx hby d359 rfl rfl ?_
 refine t_iload 10 X1.here hx hby d360 rfl rfl ?_
 refine t_iloadN 11 X1.here hx hby d361 rfl rfl ?_
 refine t_icmpNo 14 X1.here hx hby d362 (by decide) rfl ?_
 refine t_aloadN 15 X1.here hx hby d363 rfl rfl rfl ?_
 refine t_iload 17 X1.here hx hby d364 rfl rfl ?_
 refine t_aloadN 18 X1.here hx hby d365 rfl rfl rfl ?_
 refine t_iloadN 19 X1.here hx hby d366 rfl rfl ?_
 refine own_aldC (pc' := 20) X1 hx hZ rfl f5 (j := 0) (v := (.int i_3)) (by decide) rfl (hb hby d367) rfl ?_
 refine st6 _ ?_
 refine t_iinc (pc' := 26) (L' := #[vr o0, vi 1, vi 2, vr b2_1, vi 0]) X6.here hx hby d369 rfl (by first | rfl | decide) rfl ?_
 refine t_iinc (pc' := 29) (L' := #[vr o0, vi 1, vi 2, vr b2_1, vi 1]) X6.here hx hby d370 rfl (by first | rfl | decide) rfl ?_
 refine t_goto (pc := 29) 8 X6.here hx hby d371 (by decide) (by decide) ?_
 refine t_iload 10 X6.here hx hby d360 rfl rfl ?_
 refine t_iloadN 11 X6.here hx hby d361 rfl rfl ?_
 refine t_icmpNo 14 X6.here hx hby d362 (by decide) rfl ?_
 refine t_aloadN 15 X6.here hx hby d363 rfl rfl rfl ?_
 refine t_iload 17 X6.here hx hby d364 rfl rfl ?_
 refine t_aloadN 18 X6.here hx hby d365 rfl rfl rfl ?_
 refine t_iloadN 19 X6.here hx hby d366 rfl rfl ?_
 refine own_aldC (pc' := 20) X6 hx hZ rfl f10 (j := 1) (v := (.int i_4)) (by decide) rfl (hb hby d367) rfl ?_
 refine st11 _ ?_
 refine t_iinc (pc' := 26) (L' := #[vr o0, vi 2, vi 2, vr b2_1, vi 1]) X11.here hx hby d369 rfl (by first | rfl | decide) rfl ?_
 refine t_iinc (pc' := 29) (L' := #[vr o0, vi 2, vi 2, vr b2_1, vi 2]) X11.here hx hby d370 rfl (by first | rfl | decide) rfl ?_
 refine t_goto (pc := 29) 8 X11.here hx hby d371 (by decide) (by decide) ?_
 refine t_iload 10 X11.here hx hby d360 rfl rfl ?_
 refine t_iloadN 11 X11.here hx hby d361 rfl rfl ?_
 refine t_icmpYes (pc := 11) 32 X11.here hx hby d362 (by decide) (by decide) (by decide) ?_
 refine t_aloadN 33 X11.here hx hby d372 rfl rfl rfl ?_
 jvm_step X11.here [X11.here.top, hx, (hb hby d373), X11.method', hret, Value.isRef, FieldType.isReference]
 first | (intro acts; rw [hr _ acts rfl rfl rfl]) | rw [hr _ _ rfl rfl rfl]
 exact Steps.refl _
def w70 (hw : HW Z a0) := ow 70 hw rfl
theorem pd_25 : parseMethodDescriptor "([CII)[B" = some ⟨[(.array .char), .int, .int], some (.array .byte)⟩ := by decide +kernel
def w69 (hw : HW Z a0) := ow 69 hw rfl
theorem d374 : decode b26_ 26 = .ok (.astore 5, 2) := by decide +kernel
theorem d375 : decode b26_ 28 = .ok (.aload 5, 2) := by decide +kernel
theorem d376 : decode b26_ 30 = .ok (.iload 4, 2) := by decide +kernel
theorem d377 : decode b26_ 32 = .ok (.invokestatic 71, 3) := by decide +kernel
def Q_r50_getChar (Z : State) (o0 : Addr) (i_2 i_3 i_4 i_5 : Int32) (k_o0 : ClassId) (h0 : Heap) (n0 : Nat) (v : Option Value) (h : Heap) (L : List Loc) : Prop := v = some (.int (own_chr i_2 i_3)) ∧ Fr n0 L ∧ h = h0
theorem r50_getChar (l : Launch) (Z : State) (a0 : Array Value) (hw : HW Z a0) (ws : List Jvm.Cond) (o0 : Addr) (i_2 i_3 i_4 i_5 : Int32) (k_o0 : ClassId) (h0 : Heap) (n0 : Nat) (Z0 : n0 ≤ h0.size) (S__assertionsDisabled : Sa5 Z (.int 1)) (O0 : Old Z n0 h0) (V_o0 : Arv Z h0 o0 k_o0 .byte 4 [(.int i_2), (.int i_3), (.int i_4), (.int i_5)] z0) (S_HI_BYTE_SHIFT : Sa6 Z z0) (S_LO_BYTE_SHIFT : Sa7 Z (.int 8)) :
    MF l Z y24_getChar b25_ 2 (some .char) ws ⟨0, 0, 0, 0⟩ #[(.ref o0), z0] h0 (Q_r50_getChar Z o0 i_2 i_3 i_4 i_5 k_o0 h0 n0) := by
 refine own_body (plainFor_of_name pn_StringUTF16906) (ef_4 o0 (0 : Int32)) (by decide) (by decide) ?_
 intro p e s m below meth c s₁ hx hby hml hown hnm hret hZ hh e0 X0
 have N0 := Fr.nil n0
 obtain ⟨T1, X1, e1, st1⟩ := getS2 X0 hx hZ hown (host := "") (Or.inl (w81 hw)) Via.refl e0 (Sta.ext O0.2 S__assertionsDisabled) (g := (mkF m 0 #[vr o0, vi 0] [])) rfl (hb hby d263)
 obtain ⟨T6, X6, e6, st6⟩ := getS2 X1 hx hZ hown (host := "") (Or.inl (w82 hw)) Via.refl e1 (Sta.ext O0.2 S_HI_BYTE_SHIFT) (g := (mkF m 42 #[vr o0, vi 1] [(.int (i_2 &&& (255 : Int32)))])) rfl (hb hby d275)
 obtain ⟨T7, X7, e7, st7⟩ := getS2 X6 hx hZ hown (host := "") (Or.inl (w83 hw)) Via.refl e6 (Sta.ext O0.2 S_LO_BYTE_SHIFT) (g := (mkF m 53 #[vr o0, vi 1] [(.int (i_3 &&& (255 : Int32))), (.int (i_2 &&& (255 : Int32)))])) rfl (hb hby d282)
 refine ⟨T7, _, some (.int (own_chr i_2 i_3)), X7, (fun h => by cases h <;> rfl), ?_, fun fs hr => ?_⟩
 · show Q_r50_getChar Z o0 i_2 i_3 i_4 i_5 k_o0 h0 n0 _ T7.heap _
   rw [e7]
   exact ⟨rfl, N0, rfl⟩
 rw [← (show (nar .char (own_chr i_2 i_3)) = (own_chr i_2 i_3) from (own_chrC _ _))] at hr
 refine st1 _ ?_
 refine t_ifYes (pc := 3) 28 X1.here hx hby d264 (by decide) (by decide) (by decide) ?_
 refine t_iloadN 29 X1.here hx hby d265 rfl rfl ?_
 refine t_iconst 30 (r := 1) X1.here hx hby d266 (by decide) rfl ?_
 refine t_ishl 31 (r := 0) X1.here hx hby d267 (by decide : ((0 : Int32) <<< ((1 : Int32) &&& 31)) = (0 : Int32)) rfl ?_
 refine t_istoreN (pc' := 32) (L' := #[vr o0, vi 0]) X1.here hx hby d268 rfl rfl ?_
 refine t_aloadN 33 X1.here hx hby d269 rfl rfl rfl ?_
 refine t_iloadN 34 X1.here hx hby d270 rfl rfl ?_
 refine t_iinc (pc' := 37) (L' := #[vr o0, vi 1]) X1.here hx hby d271 rfl (by first | rfl | decide) rfl ?_
 refine own_aldB (pc' := 38) X1 hx hZ e1 V_o0 (j := 0) (v := (.int i_2)) (by decide) rfl (hb hby d272) rfl ?_
 refine t_sipush 41 (r := 255) X1.here hx hby d273 (by decide) rfl ?_
 refine t_iand 42 X1.here hx hby d274 rfl rfl ?_
 refine st6 _ ?_
 refine t_ishl 46 (r := (i_2 &&& (255 : Int32))) X6.here hx hby d276 (own_shl0 _) rfl ?_
 refine t_aloadN 47 X6.here hx hby d277 rfl rfl rfl ?_
 refine t_iloadN 48 X6.here hx hby d278 rfl rfl ?_
 refine own_aldB (pc' := 49) X6 hx hZ e6 V_o0 (j := 1) (v := (.int i_3)) (by decide) rfl (hb hby d279) rfl ?_
 refine t_sipush 52 (r := 255) X6.here hx hby d280 (by decide) rfl ?_
 refine t_iand 53 X6.here hx hby d281 rfl rfl ?_
 refine st7 _ ?_
 refine t_ishl 57 X7.here hx hby d283 rfl rfl ?_
 refine t_ior 58 (r := (own_chr i_2 i_3)) X7.here hx hby d284 (Eq.refl (own_chr i_2 i_3)) rfl ?_
 refine t_i2c 59 (r := (own_chr i_2 i_3)) X7.here hx hby d285 (own_chrC _ _) rfl ?_
 exact retN X7 hx (t := .char) hret (by simp) (hb hby d286) hr
theorem d378 : decode b26_ 35 = .ok (.sipush 255, 3) := by decide +kernel
theorem d379 : decode b26_ 38 = .ok (.if_icmp .gt 16, 3) := by decide +kernel
theorem d380 : decode b26_ 54 = .ok (.aload 5, 2) := by decide +kernel
theorem d381 : decode b26_ 56 = .ok (.areturn, 1) := by decide +kernel
theorem ef_17 (x0 : Addr) (x1 x2 : Int32) (m : MethodId) : entryFrame m #[(.ref x0), (.int x1), (.int x2)] 6 = mkF m 0 #[.val (.ref x0), .val (.int x1), .val (.int x2), .unset, .unset, .unset] [] := by first | (simp [entryFrame, mkF, argsToLocals, Value.category]; done) | rfl
abbrev y30_compress : MethodName := ⟨"java/lang/StringUTF16", "compress", "([CII)[B"⟩
def Q_r43_compress (Z : State) (o0 : Addr) (i_2 i_3 : Int32) (k_o0 : ClassId) (h0 : Heap) (n0 : Nat) (v : Option Value) (h : Heap) (L : List Loc) : Prop := ∃ b2_1_6 : Addr, ∃ k2_1_6 : ClassId, v = some (.ref b2_1_6) ∧ Fr n0 L ∧ KL h0 h [] ∧ h0.size ≤ b2_1_6 ∧ Arv Z h b2_1_6 k2_1_6 .byte 4 [(.int (i_2.toInt8.toInt32)), (.int ((i_2 >>> ((8 : Int32) &&& 31)).toInt8.toInt32)), (.int (i_3.toInt8.toInt32)), (.int ((i_3 >>> ((8 : Int32) &&& 31)).toInt8.toInt32))] z0
theorem r43_compress (l : Launch) (Z : State) (a0 : Array Value) (hw : HW Z a0) (ws : List Jvm.Cond) (o0 : Addr) (i_2 i_3 : Int32) (k_o0 : ClassId) (h0 : Heap) (n0 : Nat) (Z0 : n0 ≤ h0.size) (V_o0 : Arv Z h0 o0 k_o0 .char 2 [(.int i_2), (.int i_3)] z0) (hp0 : (255 : Int32) < i_2) (S__assertionsDisabled : Sa5 Z (.int 1)) (S_HI_BYTE_SHIFT : Sa6 Z z0) (S_LO_BYTE_SHIFT : Sa7 Z (.int 8)) (O0 : Old Z n0 h0) (hp1 : ¬ (i_2 < (0 : Int32))) (hp2 : ¬ ((65535 : Int32) < i_2)) :
    MF l Z y30_compress b26_ 6 (some (.array .byte)) ws ⟨3, 2, 6, 40⟩ #[(.ref o0), z0, (.int 2)] h0 (Q_r43_compress Z o0 i_2 i_3 k_o0 h0 n0) := by
 refine own_body (plainFor_of_name pn_StringUTF16906) (ef_17 o0 (0 : Int32) (2 : Int32)) (by decide) (by decide) ?_
 intro p e s m below meth c s₁ hx hby hml hown hnm hret hZ hh e0 X0
 have N0 := Fr.nil n0
 obtain ⟨T1, h1, k1, X1, e1, E1, A1, st1⟩ := newP (aty := .byte) X0 hx hZ (w20 hw) e0 (g := (mkF m 1 #[vr o0, vi 0, vi 2, .unset, .unset, .unset] [(.int 2)])) rfl (hb hby d312) rfl (by decide) (cap := 2) (by decide) (by decide) (by decide) (by decide)
 obtain ⟨b1, g1⟩ : ∃ z, z = h0.size := ⟨_, rfl⟩
 rw [← g1] at A1 st1
 have ge_b1 : h0.size ≤ b1 := Nat.le_of_eq g1.symm
 have K1 := KL.ofE E1
 have V1 : Arv Z h1 b1 k1 .byte 2 [z0, z0] z0 := (Arv.new A1 (by decide)).pad (pad_rep [] z0 2)
 have f5 := (kArv K1 V_o0 na0)
 obtain ⟨_, T4, L4, X4, hQ4, st4⟩ := own_static X1 hx hZ hown (w62 hw) (w63 hw) (w60 hw) (w64 hw) (by decide) (r44_compress l Z a0 hw [] o0 b1 i_2 i_3 k_o0 h1 n0 (Nat.le_trans Z0 K1.1) f5 hp0) e1 (W := 0) (by decide) (g := (mkF m 9 #[vr o0, vi 0, vi 2, vr b1, .unset, .unset] [(.int 2), z0, (.ref b1), z0, (.ref o0)])) rfl hml.symm (argsL := [(.ref o0), z0, (.ref b1), z0, (.int 2)]) (rest := []) (lenOf pd_22 rfl) rfl rfl (own_wr rfl rfl) (hb hby d319)
 obtain ⟨rfl, N4q, e4⟩ := hQ4
 have N4 := Fr.app N0 N4q
 have f7 := (kOld K1 O0 na0)
 obtain ⟨_, T6, L6, X6, hQ6, st6⟩ := own_static X4 hx hZ hown (w68 hw) (w69 hw) (w60 hw) (w70 hw) (by decide) (r45_toBytes l Z a0 hw [] o0 i_2 i_3 k_o0 h1 n0 (Nat.le_trans Z0 K1.1) f5 S__assertionsDisabled S_HI_BYTE_SHIFT S_LO_BYTE_SHIFT f7) e4 (W := 0) (by decide) (g := (mkF m 23 #[vr o0, vi 0, vi 2, vr b1, vi 0, .unset] [(.int 2), z0, (.ref o0)])) rfl hml.symm (argsL := [(.ref o0), z0, (.int 2)]) (rest := []) (lenOf pd_25 rfl) rfl rfl (own_wr rfl rfl) (hb hby d341)
 obtain ⟨b2_1_6, k2_1_6, rfl, N6q, K6, Q6_0, Q6_1⟩ := hQ6
 have N6 := Fr.app N4 N6q
 have f10 := (kOld K6 f7 na0)
 have sz_0_2 := (Nat.le_trans K1.1 K6.1)
 obtain ⟨_, T9, L9, X9, hQ9, st9⟩ := own_static X6 hx hZ hown (w84 hw) (w85 hw) (w60 hw) (w86 hw) (by decide) (r50_getChar l Z a0 hw [] b2_1_6 (i_2.toInt8.toInt32) ((i_2 >>> ((8 : Int32) &&& 31)).toInt8.toInt32) (i_3.toInt8.toInt32) ((i_3 >>> ((8 : Int32) &&& 31)).toInt8.toInt32) k2_1_6 T6.heap n0 (Nat.le_trans Z0 sz_0_2) S__assertionsDisabled f10 Q6_1 S_HI_BYTE_SHIFT S_LO_BYTE_SHIFT) rfl (W := 0) (by decide) (g := (mkF m 32 #[vr o0, vi 0, vi 2, vr b1, vi 0, vr b2_1_6] [z0, (.ref b2_1_6)])) rfl hml.symm (argsL := [(.ref b2_1_6), z0]) (rest := []) (lenOf pd_5 rfl) rfl rfl (own_wr rfl rfl) (hb hby d377)
 obtain ⟨rfl, N9q, e9⟩ := hQ9
 have N9 := Fr.app N6 N9q
 have C0 := (KL.refl h0 []).trans K1 na0
 have C1 := C0.trans K6 na0
 refine ⟨T9, _, some (.ref b2_1_6), X9, (fun h => by cases h <;> rfl), ?_, fun fs hr => ?_⟩
 · show Q_r43_compress Z o0 i_2 i_3 k_o0 h0 n0 _ T9.heap _
   rw [e9]
   exact ⟨b2_1_6, k2_1_6, rfl, N9, C1, (Nat.le_trans K1.1 Q6_0), Q6_1⟩
 refine t_iloadN 1 X0.here hx hby d311 rfl rfl ?_
 refine st1 _ ?_
 refine t_astoreN (pc' := 4) (L' := #[vr o0, vi 0, vi 2, vr b1, .unset, .unset]) X1.here hx hby d313 rfl rfl rfl ?_
 refine t_aloadN 5 X1.here hx hby d314 rfl rfl rfl ?_
 refine t_iloadN 6 X1.here hx hby d315 rfl rfl ?_
 refine t_aloadN 7 X1.here hx hby d316 rfl rfl rfl ?_
 refine t_iconst 8 (r := 0) X1.here hx hby d317 (by decide) rfl ?_
 refine t_iloadN 9 X1.here hx hby d318 rfl rfl ?_
 refine st4 _ ?_
 refine t_istore (pc' := 14) (L' := #[vr o0, vi 0, vi 2, vr b1, vi 0, .unset]) X4.here hx hby d334 rfl rfl ?_
 refine t_iload 16 X4.here hx hby d335 rfl rfl ?_
 refine t_iloadN 17 X4.here hx hby d336 rfl rfl ?_
 refine t_icmpNo 20 X4.here hx hby d337 (by decide) rfl ?_
 refine t_aloadN 21 X4.here hx hby d338 rfl rfl rfl ?_
 refine t_iloadN 22 X4.here hx hby d339 rfl rfl ?_
 refine t_iloadN 23 X4.here hx hby d340 rfl rfl ?_
 refine st6 _ ?_
 refine t_astore (pc' := 28) (L' := #[vr o0, vi 0, vi 2, vr b1, vi 0, vr b2_1_6]) X6.here hx hby d374 rfl rfl rfl ?_
 refine t_aload 30 X6.here hx hby d375 rfl rfl rfl ?_
 refine t_iload 32 X6.here hx hby d376 rfl rfl ?_
 refine st9 _ ?_
 refine castTop (g' := (mkF m 35 #[vr o0, vi 0, vi 2, vr b1, vi 0, vr b2_1_6] [(.int i_2)])) (congrArg (fun z => mkF m 35 #[vr o0, vi 0, vi 2, vr b1, vi 0, vr b2_1_6] (Value.int z :: [])) (own_chrE hp1 hp2)) ?_
 refine t_sipush 38 (r := 255) X9.here hx hby d378 (by decide) rfl ?_
 refine t_icmpYes (pc := 38) 54 X9.here hx hby d379 (tlt hp0).2.2.1 (by decide) (by decide) ?_
 refine t_aload 56 X9.here hx hby d380 rfl rfl rfl ?_
 jvm_step X9.here [X9.here.top, hx, (hb hby d381), X9.method', hret, Value.isRef, FieldType.isReference]
 first | (intro acts; rw [hr _ acts rfl rfl rfl]) | rw [hr _ _ rfl rfl rfl]
 exact Steps.refl _
def w61 (hw : HW Z a0) := ow 61 hw rfl
def w59 (hw : HW Z a0) := ow 59 hw rfl
theorem d382 : decode b13_ 39 = .ok (.astore 5, 2) := by decide +kernel
theorem d383 : decode b13_ 41 = .ok (.aload_n 0, 1) := by decide +kernel
theorem d384 : decode b13_ 42 = .ok (.aload 5, 2) := by decide +kernel
theorem d385 : decode b13_ 44 = .ok (.iload_n 3, 1) := by decide +kernel
theorem d386 : decode b13_ 45 = .ok (.invokestatic 47, 3) := by decide +kernel
def w65 (hw : HW Z a0) := ow 65 hw rfl
abbrev b31_ := jdk_52_method_15_code
theorem d387 : decode b31_ 0 = .ok (.iload_n 1, 1) := by decide +kernel
theorem d388 : decode b31_ 1 = .ok (.aload_n 0, 1) := by decide +kernel
theorem d389 : decode b31_ 2 = .ok (.arraylength, 1) := by decide +kernel
theorem d390 : decode b31_ 3 = .ok (.isub, 1) := by decide +kernel
theorem d391 : decode b31_ 4 = .ok (.bipush 31, 2) := by decide +kernel
theorem d392 : decode b31_ 6 = .ok (.iushr, 1) := by decide +kernel
theorem d393 : decode b31_ 7 = .ok (.i2b, 1) := by decide +kernel
theorem d394 : decode b31_ 8 = .ok (.ireturn, 1) := by decide +kernel
abbrev y31_coderFromArrayLen : MethodName := ⟨"java/lang/StringUTF16", "coderFromArrayLen", "([BI)B"⟩
def Q_r51_coderFromArrayLen (Z : State) (o0 : Addr) (i_1 i_2 i_3 i_4 : Int32) (k_o0 : ClassId) (h0 : Heap) (n0 : Nat) (v : Option Value) (h : Heap) (L : List Loc) : Prop := v = some (.int 1) ∧ Fr n0 L ∧ h = h0
theorem r51_coderFromArrayLen (l : Launch) (Z : State) (a0 : Array Value) (hw : HW Z a0) (ws : List Jvm.Cond) (o0 : Addr) (i_1 i_2 i_3 i_4 : Int32) (k_o0 : ClassId) (h0 : Heap) (n0 : Nat) (Z0 : n0 ≤ h0.size) (V_o0 : Arv Z h0 o0 k_o0 .byte 4 [(.int i_1), (.int i_2), (.int i_3), (.int i_4)] z0) :
    MF l Z y31_coderFromArrayLen b31_ 2 (some .byte) ws ⟨0, 0, 0, 0⟩ #[(.ref o0), (.int 2)] h0 (Q_r51_coderFromArrayLen Z o0 i_1 i_2 i_3 i_4 k_o0 h0 n0) := by
 refine own_body (plainFor_of_name pn_StringUTF16906) (ef_4 o0 (2 : Int32)) (by decide) (by decide) ?_
 intro p e s m below meth c s₁ hx hby hml hown hnm hret hZ hh e0 X0
 have N0 := Fr.nil n0
 refine ⟨s₁, _, some (.int 1), X0, (fun h => by cases h <;> rfl), ?_, fun fs hr => ?_⟩
 · show Q_r51_coderFromArrayLen Z o0 i_1 i_2 i_3 i_4 k_o0 h0 n0 _ s₁.heap _
   rw [e0]
   exact ⟨rfl, N0, rfl⟩
 refine t_iloadN 1 X0.here hx hby d387 rfl rfl ?_
 refine t_aloadN 2 X0.here hx hby d388 rfl rfl rfl ?_
 refine own_arlen (pc' := 3) X0 hx hZ e0 V_o0 (hb hby d389) rfl ?_
 refine t_isub 4 (r := (-2 : Int32)) X0.here hx hby d390 (by decide : ((2 : Int32) - (4 : Int32)) = (-2 : Int32)) rfl ?_
 refine t_bipush 6 (r := 31) X0.here hx hby d391 (by decide) rfl ?_
 refine t_iushr 7 (r := 1) X0.here hx hby d392 (by decide : (((-2 : Int32).toUInt32 >>> ((31 : Int32) &&& 31).toUInt32).toInt32) = (1 : Int32)) rfl ?_
 refine t_i2b 8 (r := 1) X0.here hx hby d393 (by decide : ((1 : Int32).toInt8.toInt32) = (1 : Int32)) rfl ?_
 exact retN X0 hx (t := .byte) hret (by simp) (hb hby d394) hr
def w67 (hw : HW Z a0) := ow 67 hw rfl
theorem pd_26 : parseMethodDescriptor "([BI)B" = some ⟨[(.array .byte), .int], some .byte⟩ := by decide +kernel
def w66 (hw : HW Z a0) := ow 66 hw rfl
theorem d395 : decode b13_ 48 = .ok (.putfield 15, 3) := by decide +kernel
theorem d396 : decode b13_ 51 = .ok (.aload_n 0, 1) := by decide +kernel
theorem d397 : decode b13_ 52 = .ok (.aload 5, 2) := by decide +kernel
theorem d398 : decode b13_ 54 = .ok (.putfield 9, 3) := by decide +kernel
theorem d399 : decode b13_ 57 = .ok (.return_, 1) := by decide +kernel
def WS_r42__init_ (Z : State) (o0 : Addr) : List (Addr × Nat) := [(o0, (sl1 Z)), (o0, (sl0 Z))]
def Q_r42__init_ (Z : State) (o0 o1 : Addr) (i_2 i_4 i_5 : Int32) (k_o1 : ClassId) (h0 : Heap) (n0 : Nat) (v : Option Value) (h : Heap) (L : List Loc) : Prop := ∃ b2_1_6_6 : Addr, ∃ k2_1_6_6 : ClassId, v = none ∧ Fr n0 L ∧ KL h0 h (WS_r42__init_ Z o0) ∧ h0.size ≤ b2_1_6_6 ∧ Fd1 Z h o0 (.int 1) ∧ Fd0 Z h o0 (.ref b2_1_6_6) ∧ Arv Z h b2_1_6_6 k2_1_6_6 .byte 4 [(.int (i_4.toInt8.toInt32)), (.int ((i_4 >>> ((8 : Int32) &&& 31)).toInt8.toInt32)), (.int (i_5.toInt8.toInt32)), (.int ((i_5 >>> ((8 : Int32) &&& 31)).toInt8.toInt32))] z0
theorem r42__init_ (l : Launch) (Z : State) (a0 : Array Value) (hw : HW Z a0) (ws : List Jvm.Cond) (o0 o1 : Addr) (i_2 i_4 i_5 : Int32) (k_o1 : ClassId) (h0 : Heap) (n0 : Nat) (Z0 : n0 ≤ h0.size) (sCS : SCS Z i_2) (O0 : Old Z n0 h0) (hp0 : ¬ (i_2 = (0 : Int32))) (V_o1 : Arv Z h0 o1 k_o1 .char 2 [(.int i_4), (.int i_5)] z0) (S__assertionsDisabled : Sa5 Z (.int 1)) (S_HI_BYTE_SHIFT : Sa6 Z z0) (S_LO_BYTE_SHIFT : Sa7 Z (.int 8)) (hp1 : (255 : Int32) < i_4) (hp2 : ¬ (i_4 < (0 : Int32))) (hp3 : ¬ ((65535 : Int32) < i_4)) (F_o0_coder : Fd1 Z h0 o0 z0) (E_o0 : Ex0 Z h0 o0) (g_o0 : n0 ≤ o0) (F_o0_value : Fd0 Z h0 o0 .null) :
    MF l Z y11__init_ b13_ 6 none ws ⟨4, 2, 6, 57⟩ #[(.ref o0), (.ref o1), z0, (.int 2), .null] h0 (Q_r42__init_ Z o0 o1 i_2 i_4 i_5 k_o1 h0 n0) := by
 refine own_body (plainFor_of_name pn_String564) (ef_7 o0 o1 (0 : Int32) (2 : Int32)) (by decide) (by decide) ?_
 intro p e s m below meth c s₁ hx hby hml hown hnm hret hZ hh e0 X0
 have N0 := Fr.nil n0
 obtain ⟨T1, X1, e1, st1⟩ := initO X0 hx hZ hown (w16 hw) (w17 hw) (w18 hw) e0 (g := (mkF m 1 #[vr o0, vr o1, vi 0, vi 2, .val .null, .unset] [(.ref o0)])) rfl hml.symm rfl (hb hby d128) (by decide) (W := 0) (own_wr rfl rfl) (by decide)
 obtain ⟨T3, X3, e3, st3⟩ := getS2 X1 hx hZ hown (host := "") (Or.inl (w41 hw)) Via.refl e1 (Sta.ext O0.2 sCS) (g := (mkF m 27 #[vr o0, vr o1, vi 0, vi 2, .val .null, .unset] [])) rfl (hb hby d305)
 obtain ⟨_, T6, L6, X6, hQ6, st6⟩ := own_static X3 hx hZ hown (w58 hw) (w59 hw) (w60 hw) (w61 hw) (by decide) (r43_compress l Z a0 hw [] o1 i_4 i_5 k_o1 h0 n0 Z0 V_o1 hp1 S__assertionsDisabled S_HI_BYTE_SHIFT S_LO_BYTE_SHIFT O0 hp2 hp3) e3 (W := 0) (by decide) (g := (mkF m 36 #[vr o0, vr o1, vi 0, vi 2, .val .null, .unset] [(.int 2), z0, (.ref o1)])) rfl hml.symm (argsL := [(.ref o1), z0, (.int 2)]) (rest := []) (lenOf pd_25 rfl) rfl rfl (own_wr rfl rfl) (hb hby d310)
 obtain ⟨b2_1_6_6, k2_1_6_6, rfl, N6q, K6, Q6_0, Q6_1⟩ := hQ6
 have N6 := Fr.app N0 N6q
 obtain ⟨_, T8, L8, X8, hQ8, st8⟩ := own_static X6 hx hZ hown (w65 hw) (w66 hw) (w60 hw) (w67 hw) (by decide) (r51_coderFromArrayLen l Z a0 hw [] b2_1_6_6 (i_4.toInt8.toInt32) ((i_4 >>> ((8 : Int32) &&& 31)).toInt8.toInt32) (i_5.toInt8.toInt32) ((i_5 >>> ((8 : Int32) &&& 31)).toInt8.toInt32) k2_1_6_6 T6.heap n0 (Nat.le_trans Z0 K6.1) Q6_1) rfl (W := 1) (by decide) (g := (mkF m 45 #[vr o0, vr o1, vi 0, vi 2, .val .null, vr b2_1_6_6] [(.int 2), (.ref b2_1_6_6), (.ref o0)])) rfl hml.symm (argsL := [(.ref b2_1_6_6), (.int 2)]) (rest := [(.ref o0)]) (lenOf pd_26 rfl) rfl rfl (own_wr rfl rfl) (hb hby d386)
 obtain ⟨rfl, N8q, e8⟩ := hQ8
 have N8 := Fr.app N6 N8q
 have f9 := (kFld K6 F_o0_coder nw0)
 have f10 := (kExa K6 E_o0)
 obtain ⟨T11, h11, X11, e11, W11, st11⟩ := putF X8 hx hZ hown (host := "") (Or.inl (w26 hw)) Via.refl e8 f9 f10 (Or.inr ⟨(w22 hw), rfl, hnm⟩) (w6 hw) (ty := .byte) (by decide) (by decide) (by decide) (g := (mkF m 48 #[vr o0, vr o1, vi 0, vi 2, .val .null, vr b2_1_6_6] [(.int 1), (.ref o0)])) rfl rfl (hb hby d395)
 have K11 := KL.ofW W11
 have Fw11 : Fd1 Z h11 o0 (.int 1) := Fld.same W11 f9
 have N11 := Fr.snoc X11 N8 g_o0
 have f12 := (kFld K11 (kFld K6 F_o0_value nw0) (nwR (sn_1 hw) nw0))
 have f13 := (kExa K11 f10)
 obtain ⟨T14, h14, X14, e14, W14, st14⟩ := putF X11 hx hZ hown (host := "") (Or.inl (w25 hw)) Via.refl e11 f12 f13 (Or.inr ⟨(w21 hw), rfl, hnm⟩) (w6 hw) (ty := (.array .byte)) (by decide) rfl rfl (g := (mkF m 54 #[vr o0, vr o1, vi 0, vi 2, .val .null, vr b2_1_6_6] [(.ref b2_1_6_6), (.ref o0)])) rfl rfl (hb hby d398)
 have K14 := KL.ofW W14
 have Fw14 : Fd0 Z h14 o0 (.ref b2_1_6_6) := Fld.same W14 f12
 have N14 := Fr.snoc X14 N11 g_o0
 have C0 := (KL.refl h0 (WS_r42__init_ Z o0)).trans K6 na0
 have C1 := C0.trans K11 (naO (own_mi 0 rfl) na0)
 have C2 := C1.trans K14 (naO (own_mi 1 rfl) na0)
 have f15 := (kFld K14 Fw11 (nwR (sn_0 hw) nw0))
 have lt_o0 : o0 < h0.size := Fld.lt F_o0_coder
 have ne16 := lt_ne lt_o0 Q6_0
 have f17 := (kArv K14 (kArv K11 Q6_1 (naN ne16 na0)) (naN ne16 na0))
 refine ⟨T14, _, none, X14, (fun h => by cases h <;> rfl), ?_, fun fs hr => ?_⟩
 · show Q_r42__init_ Z o0 o1 i_2 i_4 i_5 k_o1 h0 n0 _ T14.heap _
   rw [e14]
   exact ⟨b2_1_6_6, k2_1_6_6, rfl, N14, C2, Q6_0, f15, Fw14, f17⟩
 refine t_aloadN 1 X0.here hx hby d127 rfl rfl rfl ?_
 refine st1 _ ?_
 refine t_iloadN 5 X1.here hx hby d129 rfl rfl ?_
 refine t_ifYes (pc := 5) 27 X1.here hx hby d130 (by decide) (by decide) (by decide) ?_
 refine st3 _ ?_
 refine t_ifNo 33 X3.here hx hby d306 ((if0 _ _).trans (feq hp0).1) rfl ?_
 refine t_aloadN 34 X3.here hx hby d307 rfl rfl rfl ?_
 refine t_iloadN 35 X3.here hx hby d308 rfl rfl ?_
 refine t_iloadN 36 X3.here hx hby d309 rfl rfl ?_
 refine st6 _ ?_
 refine t_astore (pc' := 41) (L' := #[vr o0, vr o1, vi 0, vi 2, .val .null, vr b2_1_6_6]) X6.here hx hby d382 rfl rfl rfl ?_
 refine t_aloadN 42 X6.here hx hby d383 rfl rfl rfl ?_
 refine t_aload 44 X6.here hx hby d384 rfl rfl rfl ?_
 refine t_iloadN 45 X6.here hx hby d385 rfl rfl ?_
 refine st8 _ ?_
 refine st11 _ ?_
 refine t_aloadN 52 X11.here hx hby d396 rfl rfl rfl ?_
 refine t_aload 54 X11.here hx hby d397 rfl rfl rfl ?_
 refine st14 _ ?_
 exact X14.returnOut hx hret (hb hby d399) hr
def WS_r41__init_ (Z : State) (o0 : Addr) : List (Addr × Nat) := [(o0, (sl1 Z)), (o0, (sl0 Z))]
def Q_r41__init_ (Z : State) (o0 o1 : Addr) (i_1 i_2 : Int32) (k_o1 : ClassId) (i_3 : Int32) (h0 : Heap) (n0 : Nat) (v : Option Value) (h : Heap) (L : List Loc) : Prop := ∃ b2_1_6_6_4 : Addr, ∃ k2_1_6_6_4 : ClassId, v = none ∧ Fr n0 L ∧ KL h0 h (WS_r41__init_ Z o0) ∧ h0.size ≤ b2_1_6_6_4 ∧ Fd1 Z h o0 (.int 1) ∧ Fd0 Z h o0 (.ref b2_1_6_6_4) ∧ Arv Z h b2_1_6_6_4 k2_1_6_6_4 .byte 4 [(.int (i_1.toInt8.toInt32)), (.int ((i_1 >>> ((8 : Int32) &&& 31)).toInt8.toInt32)), (.int (i_2.toInt8.toInt32)), (.int ((i_2 >>> ((8 : Int32) &&& 31)).toInt8.toInt32))] z0
theorem r41__init_ (l : Launch) (Z : State) (a0 : Array Value) (hw : HW Z a0) (ws : List Jvm.Cond) (o0 o1 : Addr) (i_1 i_2 : Int32) (k_o1 : ClassId) (i_3 : Int32) (h0 : Heap) (n0 : Nat) (Z0 : n0 ≤ h0.size) (V_o1 : Arv Z h0 o1 k_o1 .char 2 [(.int i_1), (.int i_2)] z0) (sCS : SCS Z i_3) (S__assertionsDisabled : Sa5 Z (.int 1)) (S_HI_BYTE_SHIFT : Sa6 Z z0) (S_LO_BYTE_SHIFT : Sa7 Z (.int 8)) (F_o0_coder : Fd1 Z h0 o0 z0) (E_o0 : Ex0 Z h0 o0) (F_o0_value : Fd0 Z h0 o0 .null) (O0 : Old Z n0 h0) (hp0 : ¬ (i_3 = (0 : Int32))) (hp1 : (255 : Int32) < i_1) (hp2 : ¬ (i_1 < (0 : Int32))) (hp3 : ¬ ((65535 : Int32) < i_1)) (g_o0 : n0 ≤ o0) :
    MF l Z y12__init_ b12_ 2 none ws ⟨5, 2, 6, 74⟩ #[(.ref o0), (.ref o1)] h0 (Q_r41__init_ Z o0 o1 i_1 i_2 k_o1 i_3 h0 n0) := by
 refine own_body (plainFor_of_name pn_String564) (ef_5 o0 o1) (by decide) (by decide) ?_
 intro p e s m below meth c s₁ hx hby hml hown hnm hret hZ hh e0 X0
 have N0 := Fr.nil n0
 obtain ⟨_, T4, L4, X4, hQ4, st4⟩ := own_init X0 hx hZ rfl hown (w12 hw) (w13 hw) (w7 hw) (w15 hw) (by decide) (r42__init_ l Z a0 hw [] o0 o1 i_3 i_1 i_2 k_o1 h0 n0 Z0 sCS O0 hp0 V_o1 S__assertionsDisabled S_HI_BYTE_SHIFT S_LO_BYTE_SHIFT hp1 hp2 hp3 F_o0_coder E_o0 g_o0 F_o0_value) e0 (W := 0) (by decide) (g := (mkF m 6 #[vr o0, vr o1] [.null, (.int 2), z0, (.ref o1), (.ref o0)])) rfl hml.symm (argsL := [(.ref o1), z0, (.int 2), .null]) (rest := []) (lenOf pd_9 rfl) rfl rfl (own_wr rfl rfl) (hb hby d126)
 obtain ⟨b2_1_6_6_4, k2_1_6_6_4, rfl, N4q, K4, Q4_0, Q4_1, Q4_2, Q4_3⟩ := hQ4
 have N4 := Fr.app N0 N4q
 have C0 := (KL.refl h0 (WS_r41__init_ Z o0)).trans K4 (naO (own_mi 0 rfl) (naO (own_mi 1 rfl) na0))
 refine ⟨T4, _, none, X4, (fun h => by cases h <;> rfl), ?_, fun fs hr => ?_⟩
 · show Q_r41__init_ Z o0 o1 i_1 i_2 k_o1 i_3 h0 n0 _ T4.heap _
   exact ⟨b2_1_6_6_4, k2_1_6_6_4, rfl, N4, C0, Q4_0, Q4_1, Q4_2, Q4_3⟩
 refine t_aloadN 1 X0.here hx hby d120 rfl rfl rfl ?_
 refine t_aloadN 2 X0.here hx hby d121 rfl rfl rfl ?_
 refine t_iconst 3 (r := 0) X0.here hx hby d122 (by decide) rfl ?_
 refine t_aloadN 4 X0.here hx hby d123 rfl rfl rfl ?_
 refine own_arlen (pc' := 5) X0 hx hZ e0 V_o1 (hb hby d124) rfl ?_
 refine t_aconst_null 6 X0.here hx hby d125 rfl ?_
 refine st4 _ ?_
 exact X4.returnOut hx hret (hb hby d140) hr
theorem d400 : decode b11_ 48 = .ok (.areturn, 1) := by decide +kernel
def Q_r40_make (Z : State) (i_1 i_2 i_3 i_9 : Int32) (h0 : Heap) (n0 : Nat) (v : Option Value) (h : Heap) (L : List Loc) : Prop := ∃ b4 : Addr, ∃ b2_1_6_6_4_10 : Addr, ∃ k2_1_6_6_4_10 : ClassId, v = some (.ref b4) ∧ Fr n0 L ∧ KL h0 h [] ∧ h0.size ≤ b4 ∧ h0.size ≤ b2_1_6_6_4_10 ∧ b4 ≠ b2_1_6_6_4_10 ∧ Ex0 Z h b4 ∧ Fd0 Z h b4 (.ref b2_1_6_6_4_10) ∧ Fd1 Z h b4 (.int 1) ∧ Arv Z h b2_1_6_6_4_10 k2_1_6_6_4_10 .byte 4 [(.int (i_1.toInt8.toInt32)), (.int ((i_1 >>> ((8 : Int32) &&& 31)).toInt8.toInt32)), (.int (i_2.toInt8.toInt32)), (.int ((i_2 >>> ((8 : Int32) &&& 31)).toInt8.toInt32))] z0
theorem r40_make (l : Launch) (Z : State) (a0 : Array Value) (hw : HW Z a0) (ws : List Jvm.Cond) (i_1 i_2 i_3 i_9 : Int32) (h0 : Heap) (n0 : Nat) (Z0 : n0 ≤ h0.size) (hp0 : ¬ (i_1 < (0 : Int32))) (hp1 : ¬ ((65535 : Int32) < i_1)) (hp2 : ¬ (i_2 < (0 : Int32))) (hp3 : ¬ ((65535 : Int32) < i_2)) (sCS : SCS Z i_9) (S__assertionsDisabled : Sa5 Z (.int 1)) (S_HI_BYTE_SHIFT : Sa6 Z z0) (S_LO_BYTE_SHIFT : Sa7 Z (.int 8)) (O0 : Old Z n0 h0) (hp4 : ¬ (i_9 = (0 : Int32))) (hp5 : (255 : Int32) < i_1) :
    MF l Z y13_make b11_ 4 (some (.object "java/lang/String")) ws ⟨6, 4, 12, 88⟩ #[(.int 2), (.int i_1), (.int i_2), (.int i_3)] h0 (Q_r40_make Z i_1 i_2 i_3 i_9 h0 n0) := by
 refine own_body (plainFor_of_name pn_PaymentFrequencyUnitOfPinLaw855) (ef_8 (2 : Int32) i_1 i_2 i_3) (by decide) (by decide) ?_
 intro p e s m below meth c s₁ hx hby hml hown hnm hret hZ hh e0 X0
 have N0 := Fr.nil n0
 obtain ⟨T4, h4, X4, e4, E4, A4, D4, -, st4⟩ := newO X0 hx hZ hown (w5 hw) (w6 hw) (w7 hw) e0 (g := (mkF m 30 #[vi 2, vi i_1, vi i_2, vi i_3] [])) rfl (hb hby d292) (by decide) (by decide)
 obtain ⟨b4, g4⟩ : ∃ z, z = h0.size := ⟨_, rfl⟩
 rw [← g4] at A4 D4 st4
 have ge_b4 : h0.size ≤ b4 := Nat.le_of_eq g4.symm
 have K4 := KL.ofE E4
 have F_b4_value : Fd0 Z h4 b4 .null := D4 (Or.inr (w21 hw)) (ty := (.array .byte)) (by decide)
 have F_b4_coder : Fd1 Z h4 b4 z0 := D4 (Or.inr (w22 hw)) (ty := .byte) (by decide)
 obtain ⟨T5, h5, k5, X5, e5, E5, A5, st5⟩ := newP (aty := .char) X4 hx hZ (w8 hw) e4 (g := (mkF m 35 #[vi 2, vi i_1, vi i_2, vi i_3] [(.int 2), (.ref b4), (.ref b4)])) rfl (hb hby d295) rfl (by decide) (cap := 2) (by decide) (by decide) (by decide) (by decide)
 obtain ⟨b5, g5⟩ : ∃ z, z = h4.size := ⟨_, rfl⟩
 rw [← g5] at A5 st5
 have ge_b5 : h4.size ≤ b5 := Nat.le_of_eq g5.symm
 have K5 := KL.ofE E5
 have V5 : Arv Z h5 b5 k5 .char 2 [z0, z0] z0 := (Arv.new A5 (by decide)).pad (pad_rep [] z0 2)
 obtain ⟨T6, h6, X6, e6, W6, V6, st6⟩ := own_astC X5 hx hZ e5 V5 (j := 0) (by decide) 0 rfl (Nat.le_of_ble_eq_true rfl) (g := (mkF m 40 #[vi 2, vi i_1, vi i_2, vi i_3] [(.int i_1), z0, (.ref b5), (.ref b5), (.ref b4), (.ref b4)])) rfl rfl (hb hby d299)
 rw [show (nar .char i_1) = i_1 from (own_c2d hp0 hp1)] at V6
 have gg7 := Nat.le_trans Z0 (Nat.le_trans K4.1 ge_b5)
 have K6 := KL.ofW W6
 replace V6 : Arv Z h6 b5 k5 .char 2 [(.int i_1), z0] z0 := V6
 have N6 := Fr.snoc X6 N0 gg7
 obtain ⟨T8, h8, X8, e8, W8, V8, st8⟩ := own_astC X6 hx hZ e6 V6 (j := 1) (by decide) 1 rfl (Nat.le_of_ble_eq_true rfl) (g := (mkF m 44 #[vi 2, vi i_1, vi i_2, vi i_3] [(.int i_2), (.int 1), (.ref b5), (.ref b5), (.ref b4), (.ref b4)])) rfl rfl (hb hby d303)
 rw [show (nar .char i_2) = i_2 from (own_c2d hp2 hp3)] at V8
 have K8 := KL.ofW W8
 replace V8 : Arv Z h8 b5 k5 .char 2 [(.int i_1), (.int i_2)] z0 := V8
 have N8 := Fr.snoc X8 N6 gg7
 have lt_b4 : b4 < h4.size := Exa.lt A4
 have ne11 := lt_ne lt_b4 ge_b5
 have f12 := (kFld K8 (kFld K6 (kFld K5 F_b4_coder nw0) (nwL ne11 nw0)) (nwL ne11 nw0))
 have f13 := (kExa K8 (kExa K6 (kExa K5 A4)))
 have f14 := (kFld K8 (kFld K6 (kFld K5 F_b4_value nw0) (nwL ne11 nw0)) (nwL ne11 nw0))
 have f15 := (kOld K8 (kOld K6 (kOld K5 (kOld K4 O0 na0) na0) (naG gg7 na0)) (naG gg7 na0))
 have gg16 := Nat.le_trans Z0 ge_b4
 have sz_0_2 := (Nat.le_trans K4.1 K5.1)
 have sz_0_3 := (Nat.le_trans sz_0_2 K6.1)
 have sz_0_4 := (Nat.le_trans sz_0_3 K8.1)
 obtain ⟨_, T10, L10, X10, hQ10, st10⟩ := own_init X8 hx hZ rfl hown (w9 hw) (w10 hw) (w7 hw) (w11 hw) (by decide) (r41__init_ l Z a0 hw [] b4 b5 i_1 i_2 k5 i_9 h8 n0 (Nat.le_trans Z0 sz_0_4) V8 sCS S__assertionsDisabled S_HI_BYTE_SHIFT S_LO_BYTE_SHIFT f12 f13 f14 f15 hp4 hp5 hp0 hp1 gg16) e8 (W := 1) (by decide) (g := (mkF m 45 #[vi 2, vi i_1, vi i_2, vi i_3] [(.ref b5), (.ref b4), (.ref b4)])) rfl hml.symm (argsL := [(.ref b5)]) (rest := [(.ref b4)]) (lenOf pd_10 rfl) rfl rfl (own_wr rfl rfl) (hb hby d304)
 obtain ⟨b2_1_6_6_4_10, k2_1_6_6_4_10, rfl, N10q, K10, Q10_0, Q10_1, Q10_2, Q10_3⟩ := hQ10
 have N10 := Fr.app N8 N10q
 have C0 := (KL.refl h0 []).trans K4 na0
 have C1 := C0.trans K5 na0
 have C2 := C1.trans K6 (naO (Or.inr (Nat.le_trans K4.1 ge_b5)) na0)
 have C3 := C2.trans K8 (naO (Or.inr (Nat.le_trans K4.1 ge_b5)) na0)
 have C4 := C3.trans K10 (naO (Or.inr ge_b4) (naO (Or.inr ge_b4) na0))
 have sz_1_3 := (Nat.le_trans K5.1 K6.1)
 have sz_1_4 := (Nat.le_trans sz_1_3 K8.1)
 have ne18 := lt_ne (Nat.lt_of_lt_of_le lt_b4 sz_1_4) Q10_0
 have f19 := (kExa K10 f13)
 refine ⟨T10, _, some (.ref b4), X10, (fun h => by cases h <;> rfl), ?_, fun fs hr => ?_⟩
 · show Q_r40_make Z i_1 i_2 i_3 i_9 h0 n0 _ T10.heap _
   exact ⟨b4, b2_1_6_6_4_10, k2_1_6_6_4_10, rfl, N10, C4, ge_b4, (Nat.le_trans sz_0_4 Q10_0), ne18, f19, Q10_2, Q10_1, Q10_3⟩
 refine t_iloadN 1 X0.here hx hby d113 rfl rfl ?_
 refine t_ifYes (pc := 1) 15 X0.here hx hby d114 (by decide) (by decide) (by decide) ?_
 refine t_iloadN 16 X0.here hx hby d151 rfl rfl ?_
 refine t_iconst 17 (r := 1) X0.here hx hby d152 (by decide) rfl ?_
 refine t_icmpYes (pc := 17) 25 X0.here hx hby d153 (by decide) (by decide) (by decide) ?_
 refine t_iloadN 26 X0.here hx hby d289 rfl rfl ?_
 refine t_iconst 27 (r := 2) X0.here hx hby d290 (by decide) rfl ?_
 refine t_icmpNo 30 X0.here hx hby d291 (by decide) rfl ?_
 refine st4 _ ?_
 refine t_dup 34 X4.here hx hby d293 rfl rfl ?_
 refine t_iconst 35 (r := 2) X4.here hx hby d294 (by decide) rfl ?_
 refine st5 _ ?_
 refine t_dup 38 X5.here hx hby d296 rfl rfl ?_
 refine t_iconst 39 (r := 0) X5.here hx hby d297 (by decide) rfl ?_
 refine t_iloadN 40 X5.here hx hby d298 rfl rfl ?_
 refine st6 _ ?_
 refine t_dup 42 X6.here hx hby d300 rfl rfl ?_
 refine t_iconst 43 (r := 1) X6.here hx hby d301 (by decide) rfl ?_
 refine t_iloadN 44 X6.here hx hby d302 rfl rfl ?_
 refine st8 _ ?_
 refine st10 _ ?_
 jvm_step X10.here [X10.here.top, hx, (hb hby d400), X10.method', hret, Value.isRef, FieldType.isReference]
 first | (intro acts; rw [hr _ acts rfl rfl rfl]) | rw [hr _ _ rfl rfl rfl]
 exact Steps.refl _
def Q_r53_length (Z : State) (o0 o_1 : Addr) (i_3 i_4 i_5 i_6 : Int32) (k_o_1 : ClassId) (i_7 : Int32) (h0 : Heap) (n0 : Nat) (v : Option Value) (h : Heap) (L : List Loc) : Prop := v = some (.int 2) ∧ Fr n0 L ∧ h = h0
theorem r53_length (l : Launch) (Z : State) (a0 : Array Value) (hw : HW Z a0) (ws : List Jvm.Cond) (o0 o_1 : Addr) (i_3 i_4 i_5 i_6 : Int32) (k_o_1 : ClassId) (i_7 : Int32) (h0 : Heap) (n0 : Nat) (Z0 : n0 ≤ h0.size) (F_o0_value : Fd0 Z h0 o0 (.ref o_1)) (V_o_1 : Arv Z h0 o_1 k_o_1 .byte 4 [(.int i_3), (.int i_4), (.int i_5), (.int i_6)] z0) (E_o0 : Ex0 Z h0 o0) (sCS : SCS Z i_7) (F_o0_coder : Fd1 Z h0 o0 (.int 1)) (O0 : Old Z n0 h0) (hp0 : ¬ (i_7 = (0 : Int32))) :
    MF l Z y3_length b3_ 1 (some .int) ws ⟨1, 0, 0, 13⟩ #[(.ref o0)] h0 (Q_r53_length Z o0 o_1 i_3 i_4 i_5 i_6 k_o_1 i_7 h0 n0) := by
 refine own_body (plainFor_of_name pn_String564) (ef_3 o0) (by decide) (by decide) ?_
 intro p e s m below meth c s₁ hx hby hml hown hnm hret hZ hh e0 X0
 have N0 := Fr.nil n0
 obtain ⟨T2, X2, e2, st2⟩ := getF X0 hx hZ hown (host := "") (Or.inl (w25 hw)) Via.refl e0 F_o0_value (g := (mkF m 1 #[vr o0] [(.ref o0)])) rfl rfl (hb hby d18)
 obtain ⟨_, T8, L8, X8, hQ8, st8⟩ := own_virtual X2 hx hZ hown (w36 hw) (w37 hw) (nfS hZ (w39 hw)) (w39 hw) (w38 hw) (w7 hw) (w40 hw) (by decide) (r33_coder l Z a0 hw [] o0 i_7 h0 n0 Z0 sCS O0 hp0 F_o0_coder) e2 E_o0 (W := 1) (by decide) (g := (mkF m 6 #[vr o0] [(.ref o0), (.int 4)])) rfl hml.symm (argsL := []) (rest := [(.int 4)]) (lenOf pd_1 rfl) rfl rfl (own_wr rfl rfl) (hb hby d21)
 obtain ⟨rfl, N8q, e8⟩ := hQ8
 have N8 := Fr.app N0 N8q
 refine ⟨T8, _, some (.int 2), X8, (fun h => by cases h <;> rfl), ?_, fun fs hr => ?_⟩
 · show Q_r53_length Z o0 o_1 i_3 i_4 i_5 i_6 k_o_1 i_7 h0 n0 _ T8.heap _
   rw [e8]
   exact ⟨rfl, N8, rfl⟩
 refine t_aloadN 1 X0.here hx hby d17 rfl rfl rfl ?_
 refine st2 _ ?_
 refine own_arlen (pc' := 5) X2 hx hZ e2 V_o_1 (hb hby d19) rfl ?_
 refine t_aloadN 6 X2.here hx hby d20 rfl rfl rfl ?_
 refine st8 _ ?_
 refine t_ishr 10 (r := 2) X8.here hx hby d28 (by decide : ((4 : Int32) >>> ((1 : Int32) &&& 31)) = (2 : Int32)) rfl ?_
 exact retI X8 hx hret (hb hby d29) hr
def Q_r52_unitOf (Z : State) (o0 o_1 : Addr) (i_2 i_3 i_4 i_5 : Int32) (k_o_1 : ClassId) (i_6 : Int32) (o_8 : Addr) (h0 : Heap) (n0 : Nat) (v : Option Value) (h : Heap) (L : List Loc) : Prop := v = some (.ref o_8) ∧ Fr n0 L ∧ h = h0
theorem r52_unitOf (l : Launch) (Z : State) (a0 : Array Value) (hw : HW Z a0) (ws : List Jvm.Cond) (o0 o_1 : Addr) (i_2 i_3 i_4 i_5 : Int32) (k_o_1 : ClassId) (i_6 : Int32) (o_8 : Addr) (h0 : Heap) (n0 : Nat) (Z0 : n0 ≤ h0.size) (E_o0 : Ex0 Z h0 o0) (F_o0_value : Fd0 Z h0 o0 (.ref o_1)) (V_o_1 : Arv Z h0 o_1 k_o_1 .byte 4 [(.int i_2), (.int i_3), (.int i_4), (.int i_5)] z0) (sCS : SCS Z i_6) (F_o0_coder : Fd1 Z h0 o0 (.int 1)) (O0 : Old Z n0 h0) (hp0 : ¬ (i_6 = (0 : Int32))) (S_EMPTY : Sa4 Z (.ref o_8)) :
    MF l Z y9_unitOf b2_ 2 (some (.object "java/util/Optional")) ws ⟨2, 0, 0, 25⟩ #[(.ref o0)] h0 (Q_r52_unitOf Z o0 o_1 i_2 i_3 i_4 i_5 k_o_1 i_6 o_8 h0 n0) := by
 refine own_body (plainFor_of_name pn_PaymentFrequency668) (ef_6 o0) (by decide) (by decide) ?_
 intro p e s m below meth c s₁ hx hby hml hown hnm hret hZ hh e0 X0
 have N0 := Fr.nil n0
 obtain ⟨_, T7, L7, X7, hQ7, st7⟩ := own_virtual X0 hx hZ hown (w31 hw) (w32 hw) (nfS hZ (w34 hw)) (w34 hw) (w33 hw) (w7 hw) (w35 hw) (by decide) (r53_length l Z a0 hw [] o0 o_1 i_2 i_3 i_4 i_5 k_o_1 i_6 h0 n0 Z0 F_o0_value V_o_1 E_o0 sCS F_o0_coder O0 hp0) e0 E_o0 (W := 0) (by decide) (g := (mkF m 3 #[vr o0, .val .null] [(.ref o0)])) rfl hml.symm (argsL := []) (rest := []) (lenOf pd_2 rfl) rfl rfl (own_wr rfl rfl) (hb hby d16)
 obtain ⟨rfl, N7q, e7⟩ := hQ7
 have N7 := Fr.app N0 N7q
 obtain ⟨_, T9, L9, X9, hQ9, st9⟩ := own_static X7 hx hZ hown (w42 hw) (w43 hw) (w44 hw) (w45 hw) (by decide) (r13_ofNullable l Z a0 hw [] o_8 h0 n0 Z0 S_EMPTY O0) e7 (W := 0) (by decide) (g := (mkF m 93 #[vr o0, .val .null] [.null])) rfl hml.symm (argsL := [.null]) (rest := []) (lenOf pd_8 rfl) rfl rfl (own_wr rfl rfl) (hb hby d67)
 obtain ⟨rfl, N9q, e9⟩ := hQ9
 have N9 := Fr.app N7 N9q
 refine ⟨T9, _, some (.ref o_8), X9, (fun h => by cases h <;> rfl), ?_, fun fs hr => ?_⟩
 · show Q_r52_unitOf Z o0 o_1 i_2 i_3 i_4 i_5 k_o_1 i_6 o_8 h0 n0 _ T9.heap _
   rw [e9]
   exact ⟨rfl, N9, rfl⟩
 refine t_aconst_null 1 X0.here hx hby d13 rfl ?_
 refine t_astoreN (pc' := 2) (L' := #[vr o0, .val .null]) X0.here hx hby d14 rfl rfl rfl ?_
 refine t_aloadN 3 X0.here hx hby d15 rfl rfl rfl ?_
 refine st7 _ ?_
 refine t_iconst 7 (r := 1) X7.here hx hby d30 (by decide) rfl ?_
 refine t_icmpYes (pc := 7) 92 X7.here hx hby d31 (by decide) (by decide) (by decide) ?_
 refine t_aloadN 93 X7.here hx hby d66 rfl rfl rfl ?_
 refine st9 _ ?_
 jvm_step X9.here [X9.here.top, hx, (hb hby d81), X9.method', hret, Value.isRef, FieldType.isReference]
 first | (intro acts; rw [hr _ acts rfl rfl rfl]) | rw [hr _ _ rfl rfl rfl]
 exact Steps.refl _
def Q_r54_expected (Z : State) (i_1 : Int32) (h0 : Heap) (n0 : Nat) (v : Option Value) (h : Heap) (L : List Loc) : Prop := v = some .null ∧ Fr n0 L ∧ h = h0
theorem r54_expected (l : Launch) (Z : State) (a0 : Array Value) (hw : HW Z a0) (ws : List Jvm.Cond) (i_1 : Int32) (h0 : Heap) (n0 : Nat) (Z0 : n0 ≤ h0.size) :
    MF l Z y10_expected b10_ 2 (some (.object "java/time/temporal/ChronoUnit")) ws ⟨0, 0, 0, 0⟩ #[(.int 2), (.int i_1)] h0 (Q_r54_expected Z i_1 h0 n0) := by
 refine own_body (plainFor_of_name pn_PaymentFrequencyUnitOfPinLaw855) (ef_2 (2 : Int32) i_1) (by decide) (by decide) ?_
 intro p e s m below meth c s₁ hx hby hml hown hnm hret hZ hh e0 X0
 have N0 := Fr.nil n0
 refine ⟨s₁, _, some .null, X0, (fun h => by cases h <;> rfl), ?_, fun fs hr => ?_⟩
 · show Q_r54_expected Z i_1 h0 n0 _ s₁.heap _
   rw [e0]
   exact ⟨rfl, N0, rfl⟩
 refine t_iloadN 1 X0.here hx hby d82 rfl rfl ?_
 refine t_iconst 2 (r := 1) X0.here hx hby d83 (by decide) rfl ?_
 refine t_icmpNo 5 X0.here hx hby d84 (by decide) rfl ?_
 refine t_aconst_null 6 X0.here hx hby d144 rfl ?_
 jvm_step X0.here [X0.here.top, hx, (hb hby d145), X0.method', hret, Value.isRef, FieldType.isReference]
 first | (intro acts; rw [hr _ acts rfl rfl rfl]) | rw [hr _ _ rfl rfl rfl]
 exact Steps.refl _
theorem law_a2_a (l : Launch) (Z : State) (a0 : Array Value) (hw : HW Z a0) (ws : List Jvm.Cond) (p0 p1 p2 p3 cs : Int32) (fm : Value) (st_EMPTY st_DAYS st_MONTHS st_YEARS : Addr) (h0 : Heap) (n0 : Nat) (Z0 : n0 ≤ h0.size) (ha : (255 : Int32) < (own_ch p1)) (hcs : ¬ (cs = (0 : Int32))) (hln : (p0 &&& (3 : Int32)) = (2 : Int32)) (hbit : (((p0.toUInt32 >>> ((2 : Int32) &&& 31).toUInt32).toInt32) &&& (1 : Int32)) = (0 : Int32)) (sCS : SCS Z cs) (S__assertionsDisabled : Sa5 Z (.int 1)) (S_HI_BYTE_SHIFT : Sa6 Z z0) (S_LO_BYTE_SHIFT : Sa7 Z (.int 8)) (O0 : Old Z n0 h0) (S_EMPTY : Sa4 Z (.ref st_EMPTY)) (E_st_EMPTY : Ex1 Z h0 st_EMPTY) (F_st_EMPTY_value : Fd2 Z h0 st_EMPTY .null) :
    LawM l Z ws p0 p1 p2 p3 h0 n0 := by
 refine own_bodyH (k := 4) (n := 12) (y := x) (Q := fun v _ L => Q_law n0 v L) (own_EW hw) (plainFor_of_name pn_PaymentFrequencyUnitOfPinLaw855) (ef_law p0 p1 p2 p3) (by decide) (by decide) ?_
 intro p e s m below meth c s₁ hx hby hml hown hnm hret hZ e0 hS0 hk0 X0 hC0 hSF0
 have N0 := Fr.nil n0
 obtain ⟨_, T1, L1, X1, hQ1, st1⟩ := own_static X0 hx hZ hown (w1 hw) (w2 hw) (w3 hw) (w4 hw) (by decide) (r40_make l Z a0 hw [] (own_ch p1) (own_ch p2) (own_ch p3) cs h0 n0 Z0 (own_m16a p1) (own_m16b p1) (own_m16a p2) (own_m16b p2) sCS S__assertionsDisabled S_HI_BYTE_SHIFT S_LO_BYTE_SHIFT O0 hcs ha) e0 (W := 0) (by decide) (g := (mkF m 102 #[vi p0, vi p1, vi p2, vi p3, vi 2, vi ((own_ch p1)), vi ((own_ch p2)), vi ((own_ch p3)), .unset, .unset, .unset] [(.int (own_ch p3)), (.int (own_ch p2)), (.int (own_ch p1)), (.int 2)])) rfl hml.symm (argsL := [(.int 2), (.int (own_ch p1)), (.int (own_ch p2)), (.int (own_ch p3))]) (rest := []) (lenOf pd_11 rfl) rfl rfl (own_wr rfl rfl) (hb hby at_102)
 obtain ⟨b4_1, b2_1_6_6_4_10_1, k2_1_6_6_4_10_1, rfl, N1q, K1, Q1_0, Q1_1, Q1_2, Q1_3, Q1_4, Q1_5, Q1_6⟩ := hQ1
 have N1 := Fr.app N0 N1q
 have Ck0 := own_chK K1 na0 (CHr.refl hC0).1
 have Ah1 := (CHr.refl hC0).trans Ck0.1
 have f5 := (kOld K1 O0 na0)
 obtain ⟨_, T4, L4, X4, hQ4, st4⟩ := own_static X1 hx hZ hown (w27 hw) (w28 hw) (w29 hw) (w30 hw) (by decide) (r52_unitOf l Z a0 hw [] b4_1 b2_1_6_6_4_10_1 ((own_ch p1).toInt8.toInt32) (((own_ch p1) >>> ((8 : Int32) &&& 31)).toInt8.toInt32) ((own_ch p2).toInt8.toInt32) (((own_ch p2) >>> ((8 : Int32) &&& 31)).toInt8.toInt32) k2_1_6_6_4_10_1 cs st_EMPTY T1.heap n0 (Nat.le_trans Z0 K1.1) Q1_3 Q1_4 Q1_6 sCS Q1_5 f5 hcs S_EMPTY) rfl (W := 0) (by decide) (g := (mkF m 109 #[vi p0, vi p1, vi p2, vi p3, vi 2, vi ((own_ch p1)), vi ((own_ch p2)), vi ((own_ch p3)), vr b4_1, .unset, .unset] [(.ref b4_1)])) rfl hml.symm (argsL := [(.ref b4_1)]) (rest := []) (lenOf pd_12 rfl) rfl rfl (own_wr rfl rfl) (hb hby at_109)
 obtain ⟨rfl, N4q, e4⟩ := hQ4
 have N4 := Fr.app N1 N4q
 obtain ⟨_, T6, L6, X6, hQ6, st6⟩ := own_static X4 hx hZ hown (w47 hw) (w48 hw) (w3 hw) (w49 hw) (by decide) (r54_expected l Z a0 hw [] (own_ch p1) T1.heap n0 (Nat.le_trans Z0 K1.1)) e4 (W := 0) (by decide) (g := (mkF m 118 #[vi p0, vi p1, vi p2, vi p3, vi 2, vi ((own_ch p1)), vi ((own_ch p2)), vi ((own_ch p3)), vr b4_1, vr st_EMPTY, .unset] [(.int (own_ch p1)), (.int 2)])) rfl hml.symm (argsL := [(.int 2), (.int (own_ch p1))]) (rest := []) (lenOf pd_13 rfl) rfl rfl (own_wr rfl rfl) (hb hby at_118)
 obtain ⟨rfl, N6q, e6⟩ := hQ6
 have N6 := Fr.app N4 N6q
 have f8 := (kFld K1 F_st_EMPTY_value nw0)
 have f9 := (kExa K1 E_st_EMPTY)
 obtain ⟨_, T7, L7, X7, hQ7, st7⟩ := own_virtual X6 hx hZ hown (w50 hw) (w51 hw) (nfS hZ (w53 hw)) (w53 hw) (w52 hw) (w44 hw) (w54 hw) (by decide) (r15_isPresent l Z a0 hw [] st_EMPTY T1.heap n0 (Nat.le_trans Z0 K1.1) f8) e6 f9 (W := 0) (by decide) (g := (mkF m 130 #[vi p0, vi p1, vi p2, vi p3, vi 2, vi ((own_ch p1)), vi ((own_ch p2)), vi ((own_ch p3)), vr b4_1, vr st_EMPTY, .val .null] [(.ref st_EMPTY)])) rfl hml.symm (argsL := []) (rest := []) (lenOf pd_3 rfl) rfl rfl (own_wr rfl rfl) (hb hby at_130)
 obtain ⟨rfl, N7q, e7⟩ := hQ7
 have N7 := Fr.app N6 N7q
 refine ⟨T7, _, some (.int 1), _, _, X7, hS0, (by rw [e7]; exact (Nat.le_trans hk0 K1.1)), (fun h => by cases h <;> rfl), ?_, (by rw [e7]; exact Ah1), hZ, fun fs hr => ?_⟩
 · show Q_law n0 _ _
   exact ⟨rfl, N7⟩
 refine t_iloadN 1 X0.here hx hby at_0 rfl rfl ?_
 refine t_iconst 2 (r := 3) X0.here hx hby at_1 (by decide) rfl ?_
 refine t_iand 3 (r := 2) X0.here hx hby at_2 hln rfl ?_
 refine t_istore (pc' := 5) (L' := #[vi p0, vi p1, vi p2, vi p3, vi 2, .unset, .unset, .unset, .unset, .unset, .unset]) X0.here hx hby at_3 rfl rfl ?_
 refine t_iloadN 6 X0.here hx hby at_5 rfl rfl ?_
 refine X0.ldcInt hx hown (mvT hZ (w0 hw)) (g := (mkF m 6 #[vi p0, vi p1, vi p2, vi p3, vi 2, .unset, .unset, .unset, .unset, .unset, .unset] [(.int p1)])) rfl (hb hby at_6) _ ?_
 refine t_iand 9 (r := (own_ch p1)) X0.here hx hby at_8 (Eq.refl (own_ch p1)) rfl ?_
 refine t_i2c 10 (r := (own_ch p1)) X0.here hx hby at_9 (own_c2d (own_m16a p1) (own_m16b p1)) rfl ?_
 refine t_istore (pc' := 12) (L' := #[vi p0, vi p1, vi p2, vi p3, vi 2, vi ((own_ch p1)), .unset, .unset, .unset, .unset, .unset]) X0.here hx hby at_10 rfl rfl ?_
 refine t_iloadN 13 X0.here hx hby at_12 rfl rfl ?_
 refine t_iconst 14 (r := 2) X0.here hx hby at_13 (by decide) rfl ?_
 refine t_iushr 15 X0.here hx hby at_14 rfl rfl ?_
 refine t_iconst 16 (r := 1) X0.here hx hby at_15 (by decide) rfl ?_
 refine t_iand 17 (r := 0) X0.here hx hby at_16 hbit rfl ?_
 refine t_ifYes (pc := 17) 80 X0.here hx hby at_17 (by decide) (by decide) (by decide) ?_
 refine t_iloadN 81 X0.here hx hby at_80 rfl rfl ?_
 refine X0.ldcInt hx hown (mvT hZ (w0 hw)) (g := (mkF m 81 #[vi p0, vi p1, vi p2, vi p3, vi 2, vi ((own_ch p1)), .unset, .unset, .unset, .unset, .unset] [(.int p2)])) rfl (hb hby at_81) _ ?_
 refine t_iand 84 (r := (own_ch p2)) X0.here hx hby at_83 (Eq.refl (own_ch p2)) rfl ?_
 refine t_i2c 85 (r := (own_ch p2)) X0.here hx hby at_84 (own_c2d (own_m16a p2) (own_m16b p2)) rfl ?_
 refine t_istore (pc' := 87) (L' := #[vi p0, vi p1, vi p2, vi p3, vi 2, vi ((own_ch p1)), vi ((own_ch p2)), .unset, .unset, .unset, .unset]) X0.here hx hby at_85 rfl rfl ?_
 refine t_iloadN 88 X0.here hx hby at_87 rfl rfl ?_
 refine X0.ldcInt hx hown (mvT hZ (w0 hw)) (g := (mkF m 88 #[vi p0, vi p1, vi p2, vi p3, vi 2, vi ((own_ch p1)), vi ((own_ch p2)), .unset, .unset, .unset, .unset] [(.int p3)])) rfl (hb hby at_88) _ ?_
 refine t_iand 91 (r := (own_ch p3)) X0.here hx hby at_90 (Eq.refl (own_ch p3)) rfl ?_
 refine t_i2c 92 (r := (own_ch p3)) X0.here hx hby at_91 (own_c2d (own_m16a p3) (own_m16b p3)) rfl ?_
 refine t_istore (pc' := 94) (L' := #[vi p0, vi p1, vi p2, vi p3, vi 2, vi ((own_ch p1)), vi ((own_ch p2)), vi ((own_ch p3)), .unset, .unset, .unset]) X0.here hx hby at_92 rfl rfl ?_
 refine t_iload 96 X0.here hx hby at_94 rfl rfl ?_
 refine t_iload 98 X0.here hx hby at_96 rfl rfl ?_
 refine t_iload 100 X0.here hx hby at_98 rfl rfl ?_
 refine t_iload 102 X0.here hx hby at_100 rfl rfl ?_
 refine st1 _ ?_
 refine t_astore (pc' := 107) (L' := #[vi p0, vi p1, vi p2, vi p3, vi 2, vi ((own_ch p1)), vi ((own_ch p2)), vi ((own_ch p3)), vr b4_1, .unset, .unset]) X1.here hx hby at_105 rfl rfl rfl ?_
 refine t_aload 109 X1.here hx hby at_107 rfl rfl rfl ?_
 refine st4 _ ?_
 refine t_astore (pc' := 114) (L' := #[vi p0, vi p1, vi p2, vi p3, vi 2, vi ((own_ch p1)), vi ((own_ch p2)), vi ((own_ch p3)), vr b4_1, vr st_EMPTY, .unset]) X4.here hx hby at_112 rfl rfl rfl ?_
 refine t_iload 116 X4.here hx hby at_114 rfl rfl ?_
 refine t_iload 118 X4.here hx hby at_116 rfl rfl ?_
 refine st6 _ ?_
 refine t_astore (pc' := 123) (L' := #[vi p0, vi p1, vi p2, vi p3, vi 2, vi ((own_ch p1)), vi ((own_ch p2)), vi ((own_ch p3)), vr b4_1, vr st_EMPTY, .val .null]) X6.here hx hby at_121 rfl rfl rfl ?_
 refine t_aload 125 X6.here hx hby at_123 rfl rfl rfl ?_
 refine t_ifnonnullNo 128 X6.here hx hby at_125 rfl ?_
 refine t_aload 130 X6.here hx hby at_128 rfl rfl rfl ?_
 refine st7 _ ?_
 refine t_ifNo 136 X7.here hx hby at_133 (by decide) rfl ?_
 refine t_iconst 137 (r := 1) X7.here hx hby at_136 (by decide) rfl ?_
 refine t_goto (pc := 137) 141 X7.here hx hby at_137 (by decide) (by decide) ?_
 exact retN X7 hx (t := .boolean) hret (by simp) (hb hby at_141) hr
theorem d401 : decode b11_ 49 = .ok (.new 35, 3) := by decide +kernel
theorem d402 : decode b11_ 52 = .ok (.dup, 1) := by decide +kernel
theorem d403 : decode b11_ 53 = .ok (.iconst 3, 1) := by decide +kernel
theorem d404 : decode b11_ 54 = .ok (.newarray .char, 2) := by decide +kernel
theorem d405 : decode b11_ 56 = .ok (.dup, 1) := by decide +kernel
theorem d406 : decode b11_ 57 = .ok (.iconst 0, 1) := by decide +kernel
theorem d407 : decode b11_ 58 = .ok (.iload_n 1, 1) := by decide +kernel
theorem d408 : decode b11_ 59 = .ok (.castore, 1) := by decide +kernel
theorem d409 : decode b11_ 60 = .ok (.dup, 1) := by decide +kernel
theorem d410 : decode b11_ 61 = .ok (.iconst 1, 1) := by decide +kernel
theorem d411 : decode b11_ 62 = .ok (.iload_n 2, 1) := by decide +kernel
theorem d412 : decode b11_ 63 = .ok (.castore, 1) := by decide +kernel
theorem d413 : decode b11_ 64 = .ok (.dup, 1) := by decide +kernel
theorem d414 : decode b11_ 65 = .ok (.iconst 2, 1) := by decide +kernel
theorem d415 : decode b11_ 66 = .ok (.iload_n 3, 1) := by decide +kernel
theorem d416 : decode b11_ 67 = .ok (.castore, 1) := by decide +kernel
theorem d417 : decode b11_ 68 = .ok (.invokespecial 37, 3) := by decide +kernel
def Q_r59_compress (Z : State) (o0 o2 : Addr) (i_1 i_2 i_3 : Int32) (k_o0 : ClassId) (h0 : Heap) (n0 : Nat) (v : Option Value) (h : Heap) (L : List Loc) : Prop := v = some z0 ∧ Fr n0 L ∧ h = h0
theorem r59_compress (l : Launch) (Z : State) (a0 : Array Value) (hw : HW Z a0) (ws : List Jvm.Cond) (o0 o2 : Addr) (i_1 i_2 i_3 : Int32) (k_o0 : ClassId) (h0 : Heap) (n0 : Nat) (Z0 : n0 ≤ h0.size) (V_o0 : Arv Z h0 o0 k_o0 .char 3 [(.int i_1), (.int i_2), (.int i_3)] z0) (hp0 : (255 : Int32) < i_1) :
    MF l Z y26_compress b27_ 7 (some .int) ws ⟨0, 0, 0, 0⟩ #[(.ref o0), z0, (.ref o2), z0, (.int 3)] h0 (Q_r59_compress Z o0 o2 i_1 i_2 i_3 k_o0 h0 n0) := by
 refine own_body (plainFor_of_name pn_StringUTF16906) (ef_15 o0 (0 : Int32) o2 (0 : Int32) (3 : Int32)) (by decide) (by decide) ?_
 intro p e s m below meth c s₁ hx hby hml hown hnm hret hZ hh e0 X0
 have N0 := Fr.nil n0
 refine ⟨s₁, _, some z0, X0, (fun h => by cases h <;> rfl), ?_, fun fs hr => ?_⟩
 · show Q_r59_compress Z o0 o2 i_1 i_2 i_3 k_o0 h0 n0 _ s₁.heap _
   rw [e0]
   exact ⟨rfl, N0, rfl⟩
 refine t_iconst 1 (r := 0) X0.here hx hby d320 (by decide) rfl ?_
 refine t_istore (pc' := 3) (L' := #[vr o0, vi 0, vr o2, vi 0, vi 3, vi 0, .unset]) X0.here hx hby d321 rfl rfl ?_
 refine t_iload 5 X0.here hx hby d322 rfl rfl ?_
 refine t_iload 7 X0.here hx hby d323 rfl rfl ?_
 refine t_icmpNo 10 X0.here hx hby d324 (by decide) rfl ?_
 refine t_aloadN 11 X0.here hx hby d325 rfl rfl rfl ?_
 refine t_iloadN 12 X0.here hx hby d326 rfl rfl ?_
 refine own_aldC (pc' := 13) X0 hx hZ e0 V_o0 (j := 0) (v := (.int i_1)) (by decide) rfl (hb hby d327) rfl ?_
 refine t_istore (pc' := 15) (L' := #[vr o0, vi 0, vr o2, vi 0, vi 3, vi 0, vi i_1]) X0.here hx hby d328 rfl rfl ?_
 refine t_iload 17 X0.here hx hby d329 rfl rfl ?_
 refine t_sipush 20 (r := 255) X0.here hx hby d330 (by decide) rfl ?_
 refine t_icmpNo 23 X0.here hx hby d331 (tlt hp0).2.2.2 rfl ?_
 refine t_iload 25 X0.here hx hby d332 rfl rfl ?_
 exact retI X0 hx hret (hb hby d333) hr
def Q_r62_newBytesLength (Z : State)  (h0 : Heap) (n0 : Nat) (v : Option Value) (h : Heap) (L : List Loc) : Prop := v = some (.int 6) ∧ Fr n0 L ∧ h = h0
theorem r62_newBytesLength (l : Launch) (Z : State) (a0 : Array Value) (hw : HW Z a0) (ws : List Jvm.Cond)  (h0 : Heap) (n0 : Nat) (Z0 : n0 ≤ h0.size) :
    MF l Z y27_newBytesLength b30_ 1 (some .int) ws ⟨0, 0, 0, 0⟩ #[(.int 3)] h0 (Q_r62_newBytesLength Z  h0 n0) := by
 refine own_body (plainFor_of_name pn_StringUTF16906) (ef_10 (3 : Int32)) (by decide) (by decide) ?_
 intro p e s m below meth c s₁ hx hby hml hown hnm hret hZ hh e0 X0
 have N0 := Fr.nil n0
 refine ⟨s₁, _, some (.int 6), X0, (fun h => by cases h <;> rfl), ?_, fun fs hr => ?_⟩
 · show Q_r62_newBytesLength Z  h0 n0 _ s₁.heap _
   rw [e0]
   exact ⟨rfl, N0, rfl⟩
 refine t_iloadN 1 X0.here hx hby d346 rfl rfl ?_
 refine t_ifYes (pc := 1) 12 X0.here hx hby d347 (by decide) (by decide) (by decide) ?_
 refine t_iloadN 13 X0.here hx hby d348 rfl rfl ?_
 refine X0.ldcInt hx hown (mvT hZ (w77 hw)) (g := (mkF m 13 #[vi 3] [(.int 3)])) rfl (hb hby d349) _ ?_
 refine t_icmpYes (pc := 15) 55 X0.here hx hby d350 (by decide) (by decide) (by decide) ?_
 refine t_iloadN 56 X0.here hx hby d351 rfl rfl ?_
 refine t_iconst 57 (r := 1) X0.here hx hby d352 (by decide) rfl ?_
 refine t_ishl 58 (r := 6) X0.here hx hby d353 (by decide : ((3 : Int32) <<< ((1 : Int32) &&& 31)) = (6 : Int32)) rfl ?_
 exact retI X0 hx hret (hb hby d354) hr
def Q_r61_newBytesFor (Z : State)  (h0 : Heap) (n0 : Nat) (v : Option Value) (h : Heap) (L : List Loc) : Prop := ∃ b2 : Addr, ∃ k2 : ClassId, v = some (.ref b2) ∧ Fr n0 L ∧ KL h0 h [] ∧ h0.size ≤ b2 ∧ Arv Z h b2 k2 .byte 6 [z0, z0, z0, z0, z0, z0] z0
theorem r61_newBytesFor (l : Launch) (Z : State) (a0 : Array Value) (hw : HW Z a0) (ws : List Jvm.Cond)  (h0 : Heap) (n0 : Nat) (Z0 : n0 ≤ h0.size) :
    MF l Z y28_newBytesFor b29_ 1 (some (.array .byte)) ws ⟨1, 1, 6, 12⟩ #[(.int 3)] h0 (Q_r61_newBytesFor Z  h0 n0) := by
 refine own_body (plainFor_of_name pn_StringUTF16906) (ef_10 (3 : Int32)) (by decide) (by decide) ?_
 intro p e s m below meth c s₁ hx hby hml hown hnm hret hZ hh e0 X0
 have N0 := Fr.nil n0
 obtain ⟨_, T1, L1, X1, hQ1, st1⟩ := own_static X0 hx hZ hown (w74 hw) (w75 hw) (w60 hw) (w76 hw) (by decide) (r62_newBytesLength l Z a0 hw []  h0 n0 Z0) e0 (W := 0) (by decide) (g := (mkF m 1 #[vi 3] [(.int 3)])) rfl hml.symm (argsL := [(.int 3)]) (rest := []) (lenOf pd_23 rfl) rfl rfl (own_wr rfl rfl) (hb hby d345)
 obtain ⟨rfl, N1q, e1⟩ := hQ1
 have N1 := Fr.app N0 N1q
 obtain ⟨T2, h2, k2, X2, e2, E2, A2, st2⟩ := newP (aty := .byte) X1 hx hZ (w20 hw) e1 (g := (mkF m 4 #[vi 3] [(.int 6)])) rfl (hb hby d355) rfl (by decide) (cap := 6) (by decide) (by decide) (by decide) (by decide)
 obtain ⟨b2, g2⟩ : ∃ z, z = h0.size := ⟨_, rfl⟩
 rw [← g2] at A2 st2
 have ge_b2 : h0.size ≤ b2 := Nat.le_of_eq g2.symm
 have K2 := KL.ofE E2
 have V2 : Arv Z h2 b2 k2 .byte 6 [z0, z0, z0, z0, z0, z0] z0 := (Arv.new A2 (by decide)).pad (pad_rep [] z0 6)
 have C0 := (KL.refl h0 []).trans K2 na0
 refine ⟨T2, _, some (.ref b2), X2, (fun h => by cases h <;> rfl), ?_, fun fs hr => ?_⟩
 · show Q_r61_newBytesFor Z  h0 n0 _ T2.heap _
   rw [e2]
   exact ⟨b2, k2, rfl, N1, C0, ge_b2, V2⟩
 refine t_iloadN 1 X0.here hx hby d344 rfl rfl ?_
 refine st1 _ ?_
 refine st2 _ ?_
 jvm_step X2.here [X2.here.top, hx, (hb hby d356), X2.method', hret, Value.isRef, FieldType.isReference]
 first | (intro acts; rw [hr _ acts rfl rfl rfl]) | rw [hr _ _ rfl rfl rfl]
 exact Steps.refl _
def WS_r63_putChar (Z : State) (o0 : Addr) : List (Addr × Nat) := [(o0, (0 : Int32).toNatClampNeg), (o0, (1 : Int32).toNatClampNeg)]
def Q_r63_putChar (Z : State) (o0 : Addr) (i_1 : Int32) (k_o0 : ClassId) (h0 : Heap) (n0 : Nat) (v : Option Value) (h : Heap) (L : List Loc) : Prop := v = none ∧ Fr n0 L ∧ KL h0 h (WS_r63_putChar Z o0) ∧ Arv Z h o0 k_o0 .byte 6 [(.int (i_1.toInt8.toInt32)), (.int ((i_1 >>> ((8 : Int32) &&& 31)).toInt8.toInt32)), z0, z0, z0, z0] z0
theorem r63_putChar (l : Launch) (Z : State) (a0 : Array Value) (hw : HW Z a0) (ws : List Jvm.Cond) (o0 : Addr) (i_1 : Int32) (k_o0 : ClassId) (h0 : Heap) (n0 : Nat) (Z0 : n0 ≤ h0.size) (S__assertionsDisabled : Sa5 Z (.int 1)) (O0 : Old Z n0 h0) (S_HI_BYTE_SHIFT : Sa6 Z z0) (V_o0 : Arv Z h0 o0 k_o0 .byte 6 [z0, z0, z0, z0, z0, z0] z0) (g_o0 : n0 ≤ o0) (S_LO_BYTE_SHIFT : Sa7 Z (.int 8)) :
    MF l Z y20_putChar b21_ 3 none ws ⟨0, 0, 0, 0⟩ #[(.ref o0), z0, (.int i_1)] h0 (Q_r63_putChar Z o0 i_1 k_o0 h0 n0) := by
 refine own_body (plainFor_of_name pn_StringUTF16906) (ef_12 o0 (0 : Int32) i_1) (by decide) (by decide) ?_
 intro p e s m below meth c s₁ hx hby hml hown hnm hret hZ hh e0 X0
 have N0 := Fr.nil n0
 obtain ⟨T2, X2, e2, st2⟩ := getS2 X0 hx hZ hown (host := "") (Or.inl (w81 hw)) Via.refl e0 (Sta.ext O0.2 S__assertionsDisabled) (g := (mkF m 0 #[vr o0, vi 0, vi i_1] [])) rfl (hb hby d215)
 obtain ⟨T3, X3, e3, st3⟩ := getS2 X2 hx hZ hown (host := "") (Or.inl (w82 hw)) Via.refl e2 (Sta.ext O0.2 S_HI_BYTE_SHIFT) (g := (mkF m 38 #[vr o0, vi 1, vi i_1] [(.int i_1), z0, (.ref o0)])) rfl (hb hby d225)
 obtain ⟨T4, h4, X4, e4, W4, V4, st4⟩ := own_astB X3 hx hZ e3 V_o0 (j := 0) (by decide) 0 rfl (Nat.le_of_ble_eq_true rfl) (g := (mkF m 43 #[vr o0, vi 1, vi i_1] [(.int (i_1.toInt8.toInt32)), z0, (.ref o0)])) rfl rfl (hb hby d228)
 rw [show (nar .byte (i_1.toInt8.toInt32)) = (i_1.toInt8.toInt32) from (own_narb _)] at V4
 have K4 := KL.ofW W4
 replace V4 : Arv Z h4 o0 k_o0 .byte 6 [(.int (i_1.toInt8.toInt32)), z0, z0, z0, z0, z0] z0 := V4
 have N4 := Fr.snoc X4 N0 g_o0
 have f5 := (kOld K4 O0 (naG g_o0 na0))
 obtain ⟨T6, X6, e6, st6⟩ := getS2 X4 hx hZ hown (host := "") (Or.inl (w83 hw)) Via.refl e4 (Sta.ext f5.2 S_LO_BYTE_SHIFT) (g := (mkF m 47 #[vr o0, vi 1, vi i_1] [(.int i_1), (.int 1), (.ref o0)])) rfl (hb hby d232)
 obtain ⟨T7, h7, X7, e7, W7, V7, st7⟩ := own_astB X6 hx hZ e6 V4 (j := 1) (by decide) 1 rfl (Nat.le_of_ble_eq_true rfl) (g := (mkF m 52 #[vr o0, vi 1, vi i_1] [(.int ((i_1 >>> ((8 : Int32) &&& 31)).toInt8.toInt32)), (.int 1), (.ref o0)])) rfl rfl (hb hby d235)
 rw [show (nar .byte ((i_1 >>> ((8 : Int32) &&& 31)).toInt8.toInt32)) = ((i_1 >>> ((8 : Int32) &&& 31)).toInt8.toInt32) from (own_narb _)] at V7
 have K7 := KL.ofW W7
 replace V7 : Arv Z h7 o0 k_o0 .byte 6 [(.int (i_1.toInt8.toInt32)), (.int ((i_1 >>> ((8 : Int32) &&& 31)).toInt8.toInt32)), z0, z0, z0, z0] z0 := V7
 have N7 := Fr.snoc X7 N4 g_o0
 have C0 := (KL.refl h0 (WS_r63_putChar Z o0)).trans K4 (naO (own_mi 0 rfl) na0)
 have C1 := C0.trans K7 (naO (own_mi 1 rfl) na0)
 refine ⟨T7, _, none, X7, (fun h => by cases h <;> rfl), ?_, fun fs hr => ?_⟩
 · show Q_r63_putChar Z o0 i_1 k_o0 h0 n0 _ T7.heap _
   rw [e7]
   exact ⟨rfl, N7, C1, V7⟩
 refine st2 _ ?_
 refine t_ifYes (pc := 3) 28 X2.here hx hby d216 (by decide) (by decide) (by decide) ?_
 refine t_iloadN 29 X2.here hx hby d217 rfl rfl ?_
 refine t_iconst 30 (r := 1) X2.here hx hby d218 (by decide) rfl ?_
 refine t_ishl 31 (r := 0) X2.here hx hby d219 (by decide : ((0 : Int32) <<< ((1 : Int32) &&& 31)) = (0 : Int32)) rfl ?_
 refine t_istoreN (pc' := 32) (L' := #[vr o0, vi 0, vi i_1]) X2.here hx hby d220 rfl rfl ?_
 refine t_aloadN 33 X2.here hx hby d221 rfl rfl rfl ?_
 refine t_iloadN 34 X2.here hx hby d222 rfl rfl ?_
 refine t_iinc (pc' := 37) (L' := #[vr o0, vi 1, vi i_1]) X2.here hx hby d223 rfl (by first | rfl | decide) rfl ?_
 refine t_iloadN 38 X2.here hx hby d224 rfl rfl ?_
 refine st3 _ ?_
 refine t_ishr 42 (r := i_1) X3.here hx hby d226 (own_shr0 _) rfl ?_
 refine t_i2b 43 X3.here hx hby d227 rfl rfl ?_
 refine st4 _ ?_
 refine t_aloadN 45 X4.here hx hby d229 rfl rfl rfl ?_
 refine t_iloadN 46 X4.here hx hby d230 rfl rfl ?_
 refine t_iloadN 47 X4.here hx hby d231 rfl rfl ?_
 refine st6 _ ?_
 refine t_ishr 51 X6.here hx hby d233 rfl rfl ?_
 refine t_i2b 52 X6.here hx hby d234 rfl rfl ?_
 refine st7 _ ?_
 exact X7.returnOut hx hret (hb hby d236) hr
def WS_r64_putChar (Z : State) (o0 : Addr) : List (Addr × Nat) := [(o0, (2 : Int32).toNatClampNeg), (o0, (3 : Int32).toNatClampNeg)]
def Q_r64_putChar (Z : State) (o0 : Addr) (i_1 i_4 i_5 : Int32) (k_o0 : ClassId) (h0 : Heap) (n0 : Nat) (v : Option Value) (h : Heap) (L : List Loc) : Prop := v = none ∧ Fr n0 L ∧ KL h0 h (WS_r64_putChar Z o0) ∧ Arv Z h o0 k_o0 .byte 6 [(.int i_4), (.int i_5), (.int (i_1.toInt8.toInt32)), (.int ((i_1 >>> ((8 : Int32) &&& 31)).toInt8.toInt32)), z0, z0] z0
theorem r64_putChar (l : Launch) (Z : State) (a0 : Array Value) (hw : HW Z a0) (ws : List Jvm.Cond) (o0 : Addr) (i_1 i_4 i_5 : Int32) (k_o0 : ClassId) (h0 : Heap) (n0 : Nat) (Z0 : n0 ≤ h0.size) (S__assertionsDisabled : Sa5 Z (.int 1)) (O0 : Old Z n0 h0) (S_HI_BYTE_SHIFT : Sa6 Z z0) (V_o0 : Arv Z h0 o0 k_o0 .byte 6 [(.int i_4), (.int i_5), z0, z0, z0, z0] z0) (g_o0 : n0 ≤ o0) (S_LO_BYTE_SHIFT : Sa7 Z (.int 8)) :
    MF l Z y20_putChar b21_ 3 none ws ⟨0, 0, 0, 0⟩ #[(.ref o0), (.int 1), (.int i_1)] h0 (Q_r64_putChar Z o0 i_1 i_4 i_5 k_o0 h0 n0) := by
 refine own_body (plainFor_of_name pn_StringUTF16906) (ef_12 o0 (1 : Int32) i_1) (by decide) (by decide) ?_
 intro p e s m below meth c s₁ hx hby hml hown hnm hret hZ hh e0 X0
 have N0 := Fr.nil n0
 obtain ⟨T2, X2, e2, st2⟩ := getS2 X0 hx hZ hown (host := "") (Or.inl (w81 hw)) Via.refl e0 (Sta.ext O0.2 S__assertionsDisabled) (g := (mkF m 0 #[vr o0, vi 1, vi i_1] [])) rfl (hb hby d215)
 obtain ⟨T3, X3, e3, st3⟩ := getS2 X2 hx hZ hown (host := "") (Or.inl (w82 hw)) Via.refl e2 (Sta.ext O0.2 S_HI_BYTE_SHIFT) (g := (mkF m 38 #[vr o0, vi 3, vi i_1] [(.int i_1), (.int 2), (.ref o0)])) rfl (hb hby d225)
 obtain ⟨T6, h6, X6, e6, W6, V6, st6⟩ := own_astB X3 hx hZ e3 V_o0 (j := 2) (by decide) 2 rfl (Nat.le_of_ble_eq_true rfl) (g := (mkF m 43 #[vr o0, vi 3, vi i_1] [(.int (i_1.toInt8.toInt32)), (.int 2), (.ref o0)])) rfl rfl (hb hby d228)
 rw [show (nar .byte (i_1.toInt8.toInt32)) = (i_1.toInt8.toInt32) from (own_narb _)] at V6
 have K6 := KL.ofW W6
 replace V6 : Arv Z h6 o0 k_o0 .byte 6 [(.int i_4), (.int i_5), (.int (i_1.toInt8.toInt32)), z0, z0, z0] z0 := V6
 have N6 := Fr.snoc X6 N0 g_o0
 have f7 := (kOld K6 O0 (naG g_o0 na0))
 obtain ⟨T8, X8, e8, st8⟩ := getS2 X6 hx hZ hown (host := "") (Or.inl (w83 hw)) Via.refl e6 (Sta.ext f7.2 S_LO_BYTE_SHIFT) (g := (mkF m 47 #[vr o0, vi 3, vi i_1] [(.int i_1), (.int 3), (.ref o0)])) rfl (hb hby d232)
 obtain ⟨T9, h9, X9, e9, W9, V9, st9⟩ := own_astB X8 hx hZ e8 V6 (j := 3) (by decide) 3 rfl (Nat.le_of_ble_eq_true rfl) (g := (mkF m 52 #[vr o0, vi 3, vi i_1] [(.int ((i_1 >>> ((8 : Int32) &&& 31)).toInt8.toInt32)), (.int 3), (.ref o0)])) rfl rfl (hb hby d235)
 rw [show (nar .byte ((i_1 >>> ((8 : Int32) &&& 31)).toInt8.toInt32)) = ((i_1 >>> ((8 : Int32) &&& 31)).toInt8.toInt32) from (own_narb _)] at V9
 have K9 := KL.ofW W9
 replace V9 : Arv Z h9 o0 k_o0 .byte 6 [(.int i_4), (.int i_5), (.int (i_1.toInt8.toInt32)), (.int ((i_1 >>> ((8 : Int32) &&& 31)).toInt8.toInt32)), z0, z0] z0 := V9
 have N9 := Fr.snoc X9 N6 g_o0
 have C0 := (KL.refl h0 (WS_r64_putChar Z o0)).trans K6 (naO (own_mi 0 rfl) na0)
 have C1 := C0.trans K9 (naO (own_mi 1 rfl) na0)
 refine ⟨T9, _, none, X9, (fun h => by cases h <;> rfl), ?_, fun fs hr => ?_⟩
 · show Q_r64_putChar Z o0 i_1 i_4 i_5 k_o0 h0 n0 _ T9.heap _
   rw [e9]
   exact ⟨rfl, N9, C1, V9⟩
 refine st2 _ ?_
 refine t_ifYes (pc := 3) 28 X2.here hx hby d216 (by decide) (by decide) (by decide) ?_
 refine t_iloadN 29 X2.here hx hby d217 rfl rfl ?_
 refine t_iconst 30 (r := 1) X2.here hx hby d218 (by decide) rfl ?_
 refine t_ishl 31 (r := 2) X2.here hx hby d219 (by decide : ((1 : Int32) <<< ((1 : Int32) &&& 31)) = (2 : Int32)) rfl ?_
 refine t_istoreN (pc' := 32) (L' := #[vr o0, vi 2, vi i_1]) X2.here hx hby d220 rfl rfl ?_
 refine t_aloadN 33 X2.here hx hby d221 rfl rfl rfl ?_
 refine t_iloadN 34 X2.here hx hby d222 rfl rfl ?_
 refine t_iinc (pc' := 37) (L' := #[vr o0, vi 3, vi i_1]) X2.here hx hby d223 rfl (by first | rfl | decide) rfl ?_
 refine t_iloadN 38 X2.here hx hby d224 rfl rfl ?_
 refine st3 _ ?_
 refine t_ishr 42 (r := i_1) X3.here hx hby d226 (own_shr0 _) rfl ?_
 refine t_i2b 43 X3.here hx hby d227 rfl rfl ?_
 refine st6 _ ?_
 refine t_aloadN 45 X6.here hx hby d229 rfl rfl rfl ?_
 refine t_iloadN 46 X6.here hx hby d230 rfl rfl ?_
 refine t_iloadN 47 X6.here hx hby d231 rfl rfl ?_
 refine st8 _ ?_
 refine t_ishr 51 X8.here hx hby d233 rfl rfl ?_
 refine t_i2b 52 X8.here hx hby d234 rfl rfl ?_
 refine st9 _ ?_
 exact X9.returnOut hx hret (hb hby d236) hr
def WS_r65_putChar (Z : State) (o0 : Addr) : List (Addr × Nat) := [(o0, (4 : Int32).toNatClampNeg), (o0, (5 : Int32).toNatClampNeg)]
def Q_r65_putChar (Z : State) (o0 : Addr) (i_1 i_4 i_5 i_6 i_7 : Int32) (k_o0 : ClassId) (h0 : Heap) (n0 : Nat) (v : Option Value) (h : Heap) (L : List Loc) : Prop := v = none ∧ Fr n0 L ∧ KL h0 h (WS_r65_putChar Z o0) ∧ Arv Z h o0 k_o0 .byte 6 [(.int i_4), (.int i_5), (.int i_6), (.int i_7), (.int (i_1.toInt8.toInt32)), (.int ((i_1 >>> ((8 : Int32) &&& 31)).toInt8.toInt32))] z0
theorem r65_putChar (l : Launch) (Z : State) (a0 : Array Value) (hw : HW Z a0) (ws : List Jvm.Cond) (o0 : Addr) (i_1 i_4 i_5 i_6 i_7 : Int32) (k_o0 : ClassId) (h0 : Heap) (n0 : Nat) (Z0 : n0 ≤ h0.size) (S__assertionsDisabled : Sa5 Z (.int 1)) (O0 : Old Z n0 h0) (S_HI_BYTE_SHIFT : Sa6 Z z0) (V_o0 : Arv Z h0 o0 k_o0 .byte 6 [(.int i_4), (.int i_5), (.int i_6), (.int i_7), z0, z0] z0) (g_o0 : n0 ≤ o0) (S_LO_BYTE_SHIFT : Sa7 Z (.int 8)) :
    MF l Z y20_putChar b21_ 3 none ws ⟨0, 0, 0, 0⟩ #[(.ref o0), (.int 2), (.int i_1)] h0 (Q_r65_putChar Z o0 i_1 i_4 i_5 i_6 i_7 k_o0 h0 n0) := by
 refine own_body (plainFor_of_name pn_StringUTF16906) (ef_12 o0 (2 : Int32) i_1) (by decide) (by decide) ?_
 intro p e s m below meth c s₁ hx hby hml hown hnm hret hZ hh e0 X0
 have N0 := Fr.nil n0
 obtain ⟨T2, X2, e2, st2⟩ := getS2 X0 hx hZ hown (host := "") (Or.inl (w81 hw)) Via.refl e0 (Sta.ext O0.2 S__assertionsDisabled) (g := (mkF m 0 #[vr o0, vi 2, vi i_1] [])) rfl (hb hby d215)
 obtain ⟨T3, X3, e3, st3⟩ := getS2 X2 hx hZ hown (host := "") (Or.inl (w82 hw)) Via.refl e2 (Sta.ext O0.2 S_HI_BYTE_SHIFT) (g := (mkF m 38 #[vr o0, vi 5, vi i_1] [(.int i_1), (.int 4), (.ref o0)])) rfl (hb hby d225)
 obtain ⟨T8, h8, X8, e8, W8, V8, st8⟩ := own_astB X3 hx hZ e3 V_o0 (j := 4) (by decide) 4 rfl (Nat.le_of_ble_eq_true rfl) (g := (mkF m 43 #[vr o0, vi 5, vi i_1] [(.int (i_1.toInt8.toInt32)), (.int 4), (.ref o0)])) rfl rfl (hb hby d228)
 rw [show (nar .byte (i_1.toInt8.toInt32)) = (i_1.toInt8.toInt32) from (own_narb _)] at V8
 have K8 := KL.ofW W8
 replace V8 : Arv Z h8 o0 k_o0 .byte 6 [(.int i_4), (.int i_5), (.int i_6), (.int i_7), (.int (i_1.toInt8.toInt32)), z0] z0 := V8
 have N8 := Fr.snoc X8 N0 g_o0
 have f9 := (kOld K8 O0 (naG g_o0 na0))
 obtain ⟨T10, X10, e10, st10⟩ := getS2 X8 hx hZ hown (host := "") (Or.inl (w83 hw)) Via.refl e8 (Sta.ext f9.2 S_LO_BYTE_SHIFT) (g := (mkF m 47 #[vr o0, vi 5, vi i_1] [(.int i_1), (.int 5), (.ref o0)])) rfl (hb hby d232)
 obtain ⟨T11, h11, X11, e11, W11, V11, st11⟩ := own_astB X10 hx hZ e10 V8 (j := 5) (by decide) 5 rfl (Nat.le_of_ble_eq_true rfl) (g := (mkF m 52 #[vr o0, vi 5, vi i_1] [(.int ((i_1 >>> ((8 : Int32) &&& 31)).toInt8.toInt32)), (.int 5), (.ref o0)])) rfl rfl (hb hby d235)
 rw [show (nar .byte ((i_1 >>> ((8 : Int32) &&& 31)).toInt8.toInt32)) = ((i_1 >>> ((8 : Int32) &&& 31)).toInt8.toInt32) from (own_narb _)] at V11
 have K11 := KL.ofW W11
 replace V11 : Arv Z h11 o0 k_o0 .byte 6 [(.int i_4), (.int i_5), (.int i_6), (.int i_7), (.int (i_1.toInt8.toInt32)), (.int ((i_1 >>> ((8 : Int32) &&& 31)).toInt8.toInt32))] z0 := V11
 have N11 := Fr.snoc X11 N8 g_o0
 have C0 := (KL.refl h0 (WS_r65_putChar Z o0)).trans K8 (naO (own_mi 0 rfl) na0)
 have C1 := C0.trans K11 (naO (own_mi 1 rfl) na0)
 refine ⟨T11, _, none, X11, (fun h => by cases h <;> rfl), ?_, fun fs hr => ?_⟩
 · show Q_r65_putChar Z o0 i_1 i_4 i_5 i_6 i_7 k_o0 h0 n0 _ T11.heap _
   rw [e11]
   exact ⟨rfl, N11, C1, V11⟩
 refine st2 _ ?_
 refine t_ifYes (pc := 3) 28 X2.here hx hby d216 (by decide) (by decide) (by decide) ?_
 refine t_iloadN 29 X2.here hx hby d217 rfl rfl ?_
 refine t_iconst 30 (r := 1) X2.here hx hby d218 (by decide) rfl ?_
 refine t_ishl 31 (r := 4) X2.here hx hby d219 (by decide : ((2 : Int32) <<< ((1 : Int32) &&& 31)) = (4 : Int32)) rfl ?_
 refine t_istoreN (pc' := 32) (L' := #[vr o0, vi 4, vi i_1]) X2.here hx hby d220 rfl rfl ?_
 refine t_aloadN 33 X2.here hx hby d221 rfl rfl rfl ?_
 refine t_iloadN 34 X2.here hx hby d222 rfl rfl ?_
 refine t_iinc (pc' := 37) (L' := #[vr o0, vi 5, vi i_1]) X2.here hx hby d223 rfl (by first | rfl | decide) rfl ?_
 refine t_iloadN 38 X2.here hx hby d224 rfl rfl ?_
 refine st3 _ ?_
 refine t_ishr 42 (r := i_1) X3.here hx hby d226 (own_shr0 _) rfl ?_
 refine t_i2b 43 X3.here hx hby d227 rfl rfl ?_
 refine st8 _ ?_
 refine t_aloadN 45 X8.here hx hby d229 rfl rfl rfl ?_
 refine t_iloadN 46 X8.here hx hby d230 rfl rfl ?_
 refine t_iloadN 47 X8.here hx hby d231 rfl rfl ?_
 refine st10 _ ?_
 refine t_ishr 51 X10.here hx hby d233 rfl rfl ?_
 refine t_i2b 52 X10.here hx hby d234 rfl rfl ?_
 refine st11 _ ?_
 exact X11.returnOut hx hret (hb hby d236) hr
def Q_r60_toBytes (Z : State) (o0 : Addr) (i_3 i_4 i_5 : Int32) (k_o0 : ClassId) (h0 : Heap) (n0 : Nat) (v : Option Value) (h : Heap) (L : List Loc) : Prop := ∃ b2_1 : Addr, ∃ k2_1 : ClassId, v = some (.ref b2_1) ∧ Fr n0 L ∧ KL h0 h [] ∧ h0.size ≤ b2_1 ∧ Arv Z h b2_1 k2_1 .byte 6 [(.int (i_3.toInt8.toInt32)), (.int ((i_3 >>> ((8 : Int32) &&& 31)).toInt8.toInt32)), (.int (i_4.toInt8.toInt32)), (.int ((i_4 >>> ((8 : Int32) &&& 31)).toInt8.toInt32)), (.int (i_5.toInt8.toInt32)), (.int ((i_5 >>> ((8 : Int32) &&& 31)).toInt8.toInt32))] z0
theorem r60_toBytes (l : Launch) (Z : State) (a0 : Array Value) (hw : HW Z a0) (ws : List Jvm.Cond) (o0 : Addr) (i_3 i_4 i_5 : Int32) (k_o0 : ClassId) (h0 : Heap) (n0 : Nat) (Z0 : n0 ≤ h0.size) (V_o0 : Arv Z h0 o0 k_o0 .char 3 [(.int i_3), (.int i_4), (.int i_5)] z0) (S__assertionsDisabled : Sa5 Z (.int 1)) (S_HI_BYTE_SHIFT : Sa6 Z z0) (S_LO_BYTE_SHIFT : Sa7 Z (.int 8)) (O0 : Old Z n0 h0) :
    MF l Z y29_toBytes b28_ 5 (some (.array .byte)) ws ⟨2, 1, 6, 24⟩ #[(.ref o0), z0, (.int 3)] h0 (Q_r60_toBytes Z o0 i_3 i_4 i_5 k_o0 h0 n0) := by
 refine own_body (plainFor_of_name pn_StringUTF16906) (ef_16 o0 (0 : Int32) (3 : Int32)) (by decide) (by decide) ?_
 intro p e s m below meth c s₁ hx hby hml hown hnm hret hZ hh e0 X0
 have N0 := Fr.nil n0
 obtain ⟨_, T1, L1, X1, hQ1, st1⟩ := own_static X0 hx hZ hown (w71 hw) (w72 hw) (w60 hw) (w73 hw) (by decide) (r61_newBytesFor l Z a0 hw []  h0 n0 Z0) e0 (W := 0) (by decide) (g := (mkF m 1 #[vr o0, vi 0, vi 3, .unset, .unset] [(.int 3)])) rfl hml.symm (argsL := [(.int 3)]) (rest := []) (lenOf pd_24 rfl) rfl rfl (own_wr rfl rfl) (hb hby d343)
 obtain ⟨b2_1, k2_1, rfl, N1q, K1, Q1_0, Q1_1⟩ := hQ1
 have N1 := Fr.app N0 N1q
 have f6 := (kArv K1 V_o0 na0)
 have f8 := (kOld K1 O0 na0)
 have gg9 := Nat.le_trans Z0 Q1_0
 obtain ⟨_, T7, L7, X7, hQ7, st7⟩ := own_static X1 hx hZ hown (w78 hw) (w79 hw) (w60 hw) (w80 hw) (by decide) (r63_putChar l Z a0 hw [] b2_1 i_3 k2_1 T1.heap n0 (Nat.le_trans Z0 K1.1) S__assertionsDisabled f8 S_HI_BYTE_SHIFT Q1_1 gg9 S_LO_BYTE_SHIFT) rfl (W := 0) (by decide) (g := (mkF m 20 #[vr o0, vi 0, vi 3, vr b2_1, vi 0] [(.int i_3), z0, (.ref b2_1)])) rfl hml.symm (argsL := [(.ref b2_1), z0, (.int i_3)]) (rest := []) (lenOf pd_19 rfl) rfl rfl (own_wr rfl rfl) (hb hby d368)
 obtain ⟨rfl, N7q, K7, Q7_0⟩ := hQ7
 have N7 := Fr.app N1 N7q
 have lt_o0 : o0 < h0.size := Arv.lt V_o0
 have ne10 := lt_ne lt_o0 Q1_0
 have f11 := (kArv K7 f6 (naN (Ne.symm ne10) (naN (Ne.symm ne10) na0)))
 have f13 := (kOld K7 f8 (naG gg9 (naG gg9 na0)))
 have sz_0_2 := (Nat.le_trans K1.1 K7.1)
 obtain ⟨_, T12, L12, X12, hQ12, st12⟩ := own_static X7 hx hZ hown (w78 hw) (w79 hw) (w60 hw) (w80 hw) (by decide) (r64_putChar l Z a0 hw [] b2_1 i_4 (i_3.toInt8.toInt32) ((i_3 >>> ((8 : Int32) &&& 31)).toInt8.toInt32) k2_1 T7.heap n0 (Nat.le_trans Z0 sz_0_2) S__assertionsDisabled f13 S_HI_BYTE_SHIFT Q7_0 gg9 S_LO_BYTE_SHIFT) rfl (W := 0) (by decide) (g := (mkF m 20 #[vr o0, vi 1, vi 3, vr b2_1, vi 1] [(.int i_4), (.int 1), (.ref b2_1)])) rfl hml.symm (argsL := [(.ref b2_1), (.int 1), (.int i_4)]) (rest := []) (lenOf pd_19 rfl) rfl rfl (own_wr rfl rfl) (hb hby d368)
 obtain ⟨rfl, N12q, K12, Q12_0⟩ := hQ12
 have N12 := Fr.app N7 N12q
 have f14 := (kArv K12 f11 (naN (Ne.symm ne10) (naN (Ne.symm ne10) na0)))
 have f16 := (kOld K12 f13 (naG gg9 (naG gg9 na0)))
 have sz_0_3 := (Nat.le_trans sz_0_2 K12.1)
 obtain ⟨_, T15, L15, X15, hQ15, st15⟩ := own_static X12 hx hZ hown (w78 hw) (w79 hw) (w60 hw) (w80 hw) (by decide) (r65_putChar l Z a0 hw [] b2_1 i_5 (i_3.toInt8.toInt32) ((i_3 >>> ((8 : Int32) &&& 31)).toInt8.toInt32) (i_4.toInt8.toInt32) ((i_4 >>> ((8 : Int32) &&& 31)).toInt8.toInt32) k2_1 T12.heap n0 (Nat.le_trans Z0 sz_0_3) S__assertionsDisabled f16 S_HI_BYTE_SHIFT Q12_0 gg9 S_LO_BYTE_SHIFT) rfl (W := 0) (by decide) (g := (mkF m 20 #[vr o0, vi 2, vi 3, vr b2_1, vi 2] [(.int i_5), (.int 2), (.ref b2_1)])) rfl hml.symm (argsL := [(.ref b2_1), (.int 2), (.int i_5)]) (rest := []) (lenOf pd_19 rfl) rfl rfl (own_wr rfl rfl) (hb hby d368)
 obtain ⟨rfl, N15q, K15, Q15_0⟩ := hQ15
 have N15 := Fr.app N12 N15q
 have C0 := (KL.refl h0 []).trans K1 na0
 have C1 := C0.trans K7 (naO (Or.inr Q1_0) (naO (Or.inr Q1_0) na0))
 have C2 := C1.trans K12 (naO (Or.inr Q1_0) (naO (Or.inr Q1_0) na0))
 have C3 := C2.trans K15 (naO (Or.inr Q1_0) (naO (Or.inr Q1_0) na0))
 refine ⟨T15, _, some (.ref b2_1), X15, (fun h => by cases h <;> rfl), ?_, fun fs hr => ?_⟩
 · show Q_r60_toBytes Z o0 i_3 i_4 i_5 k_o0 h0 n0 _ T15.heap _
   exact ⟨b2_1, k2_1, rfl, N15, C3, Q1_0, Q15_0⟩
 refine t_iloadN 1 X0.here hx hby d342 rfl rfl ?_
 refine st1 _ ?_
 refine t_astoreN (pc' := 5) (L' := #[vr o0, vi 0, vi 3, vr b2_1, .unset]) X1.here hx hby d357 rfl rfl rfl ?_
 refine t_iconst 6 (r := 0) X1.here hx hby d358 (by decide) rfl ?_
 refine t_istore (pc' := 8) (L' := #[vr o0, vi 0, vi 3, vr b2_1, vi 0]) X1.here hx hby d359 rfl rfl ?_
 refine t_iload 10 X1.here hx hby d360 rfl rfl ?_
 refine t_iloadN 11 X1.here hx hby d361 rfl rfl ?_
 refine t_icmpNo 14 X1.here hx hby d362 (by decide) rfl ?_
 refine t_aloadN 15 X1.here hx hby d363 rfl rfl rfl ?_
 refine t_iload 17 X1.here hx hby d364 rfl rfl ?_
 refine t_aloadN 18 X1.here hx hby d365 rfl rfl rfl ?_
 refine t_iloadN 19 X1.here hx hby d366 rfl rfl ?_
 refine own_aldC (pc' := 20) X1 hx hZ rfl f6 (j := 0) (v := (.int i_3)) (by decide) rfl (hb hby d367) rfl ?_
 refine st7 _ ?_
 refine t_iinc (pc' := 26) (L' := #[vr o0, vi 1, vi 3, vr b2_1, vi 0]) X7.here hx hby d369 rfl (by first | rfl | decide) rfl ?_
 refine t_iinc (pc' := 29) (L' := #[vr o0, vi 1, vi 3, vr b2_1, vi 1]) X7.here hx hby d370 rfl (by first | rfl | decide) rfl ?_
 refine t_goto (pc := 29) 8 X7.here hx hby d371 (by decide) (by decide) ?_
 refine t_iload 10 X7.here hx hby d360 rfl rfl ?_
 refine t_iloadN 11 X7.here hx hby d361 rfl rfl ?_
 refine t_icmpNo 14 X7.here hx hby d362 (by decide) rfl ?_
 refine t_aloadN 15 X7.here hx hby d363 rfl rfl rfl ?_
 refine t_iload 17 X7.here hx hby d364 rfl rfl ?_
 refine t_aloadN 18 X7.here hx hby d365 rfl rfl rfl ?_
 refine t_iloadN 19 X7.here hx hby d366 rfl rfl ?_
 refine own_aldC (pc' := 20) X7 hx hZ rfl f11 (j := 1) (v := (.int i_4)) (by decide) rfl (hb hby d367) rfl ?_
 refine st12 _ ?_
 refine t_iinc (pc' := 26) (L' := #[vr o0, vi 2, vi 3, vr b2_1, vi 1]) X12.here hx hby d369 rfl (by first | rfl | decide) rfl ?_
 refine t_iinc (pc' := 29) (L' := #[vr o0, vi 2, vi 3, vr b2_1, vi 2]) X12.here hx hby d370 rfl (by first | rfl | decide) rfl ?_
 refine t_goto (pc := 29) 8 X12.here hx hby d371 (by decide) (by decide) ?_
 refine t_iload 10 X12.here hx hby d360 rfl rfl ?_
 refine t_iloadN 11 X12.here hx hby d361 rfl rfl ?_
 refine t_icmpNo 14 X12.here hx hby d362 (by decide) rfl ?_
 refine t_aloadN 15 X12.here hx hby d363 rfl rfl rfl ?_
 refine t_iload 17 X12.here hx hby d364 rfl rfl ?_
 refine t_aloadN 18 X12.here hx hby d365 rfl rfl rfl ?_
 refine t_iloadN 19 X12.here hx hby d366 rfl rfl ?_
 refine own_aldC (pc' := 20) X12 hx hZ rfl f14 (j := 2) (v := (.int i_5)) (by decide) rfl (hb hby d367) rfl ?_
 refine st15 _ ?_
 refine t_iinc (pc' := 26) (L' := #[vr o0, vi 3, vi 3, vr b2_1, vi 2]) X15.here hx hby d369 rfl (by first | rfl | decide) rfl ?_
 refine t_iinc (pc' := 29) (L' := #[vr o0, vi 3, vi 3, vr b2_1, vi 3]) X15.here hx hby d370 rfl (by first | rfl | decide) rfl ?_
 refine t_goto (pc := 29) 8 X15.here hx hby d371 (by decide) (by decide) ?_
 refine t_iload 10 X15.here hx hby d360 rfl rfl ?_
 refine t_iloadN 11 X15.here hx hby d361 rfl rfl ?_
 refine t_icmpYes (pc := 11) 32 X15.here hx hby d362 (by decide) (by decide) (by decide) ?_
 refine t_aloadN 33 X15.here hx hby d372 rfl rfl rfl ?_
 jvm_step X15.here [X15.here.top, hx, (hb hby d373), X15.method', hret, Value.isRef, FieldType.isReference]
 first | (intro acts; rw [hr _ acts rfl rfl rfl]) | rw [hr _ _ rfl rfl rfl]
 exact Steps.refl _
def Q_r66_getChar (Z : State) (o0 : Addr) (i_2 i_3 i_4 i_5 i_6 i_7 : Int32) (k_o0 : ClassId) (h0 : Heap) (n0 : Nat) (v : Option Value) (h : Heap) (L : List Loc) : Prop := v = some (.int (own_chr i_2 i_3)) ∧ Fr n0 L ∧ h = h0
theorem r66_getChar (l : Launch) (Z : State) (a0 : Array Value) (hw : HW Z a0) (ws : List Jvm.Cond) (o0 : Addr) (i_2 i_3 i_4 i_5 i_6 i_7 : Int32) (k_o0 : ClassId) (h0 : Heap) (n0 : Nat) (Z0 : n0 ≤ h0.size) (S__assertionsDisabled : Sa5 Z (.int 1)) (O0 : Old Z n0 h0) (V_o0 : Arv Z h0 o0 k_o0 .byte 6 [(.int i_2), (.int i_3), (.int i_4), (.int i_5), (.int i_6), (.int i_7)] z0) (S_HI_BYTE_SHIFT : Sa6 Z z0) (S_LO_BYTE_SHIFT : Sa7 Z (.int 8)) :
    MF l Z y24_getChar b25_ 2 (some .char) ws ⟨0, 0, 0, 0⟩ #[(.ref o0), z0] h0 (Q_r66_getChar Z o0 i_2 i_3 i_4 i_5 i_6 i_7 k_o0 h0 n0) := by
 refine own_body (plainFor_of_name pn_StringUTF16906) (ef_4 o0 (0 : Int32)) (by decide) (by decide) ?_
 intro p e s m below meth c s₁ hx hby hml hown hnm hret hZ hh e0 X0
 have N0 := Fr.nil n0
 obtain ⟨T1, X1, e1, st1⟩ := getS2 X0 hx hZ hown (host := "") (Or.inl (w81 hw)) Via.refl e0 (Sta.ext O0.2 S__assertionsDisabled) (g := (mkF m 0 #[vr o0, vi 0] [])) rfl (hb hby d263)
 obtain ⟨T8, X8, e8, st8⟩ := getS2 X1 hx hZ hown (host := "") (Or.inl (w82 hw)) Via.refl e1 (Sta.ext O0.2 S_HI_BYTE_SHIFT) (g := (mkF m 42 #[vr o0, vi 1] [(.int (i_2 &&& (255 : Int32)))])) rfl (hb hby d275)
 obtain ⟨T9, X9, e9, st9⟩ := getS2 X8 hx hZ hown (host := "") (Or.inl (w83 hw)) Via.refl e8 (Sta.ext O0.2 S_LO_BYTE_SHIFT) (g := (mkF m 53 #[vr o0, vi 1] [(.int (i_3 &&& (255 : Int32))), (.int (i_2 &&& (255 : Int32)))])) rfl (hb hby d282)
 refine ⟨T9, _, some (.int (own_chr i_2 i_3)), X9, (fun h => by cases h <;> rfl), ?_, fun fs hr => ?_⟩
 · show Q_r66_getChar Z o0 i_2 i_3 i_4 i_5 i_6 i_7 k_o0 h0 n0 _ T9.heap _
   rw [e9]
   exact ⟨rfl, N0, rfl⟩
 rw [← (show (nar .char (own_chr i_2 i_3)) = (own_chr i_2 i_3) from (own_chrC _ _))] at hr
 refine st1 _ ?_
 refine t_ifYes (pc := 3) 28 X1.here hx hby d264 (by decide) (by decide) (by decide) ?_
 refine t_iloadN 29 X1.here hx hby d265 rfl rfl ?_
 refine t_iconst 30 (r := 1) X1.here hx hby d266 (by decide) rfl ?_
 refine t_ishl 31 (r := 0) X1.here hx hby d267 (by decide : ((0 : Int32) <<< ((1 : Int32) &&& 31)) = (0 : Int32)) rfl ?_
 refine t_istoreN (pc' := 32) (L' := #[vr o0, vi 0]) X1.here hx hby d268 rfl rfl ?_
 refine t_aloadN 33 X1.here hx hby d269 rfl rfl rfl ?_
 refine t_iloadN 34 X1.here hx hby d270 rfl rfl ?_
 refine t_iinc (pc' := 37) (L' := #[vr o0, vi 1]) X1.here hx hby d271 rfl (by first | rfl | decide) rfl ?_
 refine own_aldB (pc' := 38) X1 hx hZ e1 V_o0 (j := 0) (v := (.int i_2)) (by decide) rfl (hb hby d272) rfl ?_
 refine t_sipush 41 (r := 255) X1.here hx hby d273 (by decide) rfl ?_
 refine t_iand 42 X1.here hx hby d274 rfl rfl ?_
 refine st8 _ ?_
 refine t_ishl 46 (r := (i_2 &&& (255 : Int32))) X8.here hx hby d276 (own_shl0 _) rfl ?_
 refine t_aloadN 47 X8.here hx hby d277 rfl rfl rfl ?_
 refine t_iloadN 48 X8.here hx hby d278 rfl rfl ?_
 refine own_aldB (pc' := 49) X8 hx hZ e8 V_o0 (j := 1) (v := (.int i_3)) (by decide) rfl (hb hby d279) rfl ?_
 refine t_sipush 52 (r := 255) X8.here hx hby d280 (by decide) rfl ?_
 refine t_iand 53 X8.here hx hby d281 rfl rfl ?_
 refine st9 _ ?_
 refine t_ishl 57 X9.here hx hby d283 rfl rfl ?_
 refine t_ior 58 (r := (own_chr i_2 i_3)) X9.here hx hby d284 (Eq.refl (own_chr i_2 i_3)) rfl ?_
 refine t_i2c 59 (r := (own_chr i_2 i_3)) X9.here hx hby d285 (own_chrC _ _) rfl ?_
 exact retN X9 hx (t := .char) hret (by simp) (hb hby d286) hr
def Q_r58_compress (Z : State) (o0 : Addr) (i_2 i_3 i_4 : Int32) (k_o0 : ClassId) (h0 : Heap) (n0 : Nat) (v : Option Value) (h : Heap) (L : List Loc) : Prop := ∃ b2_1_7 : Addr, ∃ k2_1_7 : ClassId, v = some (.ref b2_1_7) ∧ Fr n0 L ∧ KL h0 h [] ∧ h0.size ≤ b2_1_7 ∧ Arv Z h b2_1_7 k2_1_7 .byte 6 [(.int (i_2.toInt8.toInt32)), (.int ((i_2 >>> ((8 : Int32) &&& 31)).toInt8.toInt32)), (.int (i_3.toInt8.toInt32)), (.int ((i_3 >>> ((8 : Int32) &&& 31)).toInt8.toInt32)), (.int (i_4.toInt8.toInt32)), (.int ((i_4 >>> ((8 : Int32) &&& 31)).toInt8.toInt32))] z0
theorem r58_compress (l : Launch) (Z : State) (a0 : Array Value) (hw : HW Z a0) (ws : List Jvm.Cond) (o0 : Addr) (i_2 i_3 i_4 : Int32) (k_o0 : ClassId) (h0 : Heap) (n0 : Nat) (Z0 : n0 ≤ h0.size) (V_o0 : Arv Z h0 o0 k_o0 .char 3 [(.int i_2), (.int i_3), (.int i_4)] z0) (hp0 : (255 : Int32) < i_2) (S__assertionsDisabled : Sa5 Z (.int 1)) (S_HI_BYTE_SHIFT : Sa6 Z z0) (S_LO_BYTE_SHIFT : Sa7 Z (.int 8)) (O0 : Old Z n0 h0) (hp1 : ¬ (i_2 < (0 : Int32))) (hp2 : ¬ ((65535 : Int32) < i_2)) :
    MF l Z y30_compress b26_ 6 (some (.array .byte)) ws ⟨3, 2, 9, 40⟩ #[(.ref o0), z0, (.int 3)] h0 (Q_r58_compress Z o0 i_2 i_3 i_4 k_o0 h0 n0) := by
 refine own_body (plainFor_of_name pn_StringUTF16906) (ef_17 o0 (0 : Int32) (3 : Int32)) (by decide) (by decide) ?_
 intro p e s m below meth c s₁ hx hby hml hown hnm hret hZ hh e0 X0
 have N0 := Fr.nil n0
 obtain ⟨T1, h1, k1, X1, e1, E1, A1, st1⟩ := newP (aty := .byte) X0 hx hZ (w20 hw) e0 (g := (mkF m 1 #[vr o0, vi 0, vi 3, .unset, .unset, .unset] [(.int 3)])) rfl (hb hby d312) rfl (by decide) (cap := 3) (by decide) (by decide) (by decide) (by decide)
 obtain ⟨b1, g1⟩ : ∃ z, z = h0.size := ⟨_, rfl⟩
 rw [← g1] at A1 st1
 have ge_b1 : h0.size ≤ b1 := Nat.le_of_eq g1.symm
 have K1 := KL.ofE E1
 have V1 : Arv Z h1 b1 k1 .byte 3 [z0, z0, z0] z0 := (Arv.new A1 (by decide)).pad (pad_rep [] z0 3)
 have f6 := (kArv K1 V_o0 na0)
 obtain ⟨_, T5, L5, X5, hQ5, st5⟩ := own_static X1 hx hZ hown (w62 hw) (w63 hw) (w60 hw) (w64 hw) (by decide) (r59_compress l Z a0 hw [] o0 b1 i_2 i_3 i_4 k_o0 h1 n0 (Nat.le_trans Z0 K1.1) f6 hp0) e1 (W := 0) (by decide) (g := (mkF m 9 #[vr o0, vi 0, vi 3, vr b1, .unset, .unset] [(.int 3), z0, (.ref b1), z0, (.ref o0)])) rfl hml.symm (argsL := [(.ref o0), z0, (.ref b1), z0, (.int 3)]) (rest := []) (lenOf pd_22 rfl) rfl rfl (own_wr rfl rfl) (hb hby d319)
 obtain ⟨rfl, N5q, e5⟩ := hQ5
 have N5 := Fr.app N0 N5q
 have f8 := (kOld K1 O0 na0)
 obtain ⟨_, T7, L7, X7, hQ7, st7⟩ := own_static X5 hx hZ hown (w68 hw) (w69 hw) (w60 hw) (w70 hw) (by decide) (r60_toBytes l Z a0 hw [] o0 i_2 i_3 i_4 k_o0 h1 n0 (Nat.le_trans Z0 K1.1) f6 S__assertionsDisabled S_HI_BYTE_SHIFT S_LO_BYTE_SHIFT f8) e5 (W := 0) (by decide) (g := (mkF m 23 #[vr o0, vi 0, vi 3, vr b1, vi 0, .unset] [(.int 3), z0, (.ref o0)])) rfl hml.symm (argsL := [(.ref o0), z0, (.int 3)]) (rest := []) (lenOf pd_25 rfl) rfl rfl (own_wr rfl rfl) (hb hby d341)
 obtain ⟨b2_1_7, k2_1_7, rfl, N7q, K7, Q7_0, Q7_1⟩ := hQ7
 have N7 := Fr.app N5 N7q
 have f11 := (kOld K7 f8 na0)
 have sz_0_2 := (Nat.le_trans K1.1 K7.1)
 obtain ⟨_, T10, L10, X10, hQ10, st10⟩ := own_static X7 hx hZ hown (w84 hw) (w85 hw) (w60 hw) (w86 hw) (by decide) (r66_getChar l Z a0 hw [] b2_1_7 (i_2.toInt8.toInt32) ((i_2 >>> ((8 : Int32) &&& 31)).toInt8.toInt32) (i_3.toInt8.toInt32) ((i_3 >>> ((8 : Int32) &&& 31)).toInt8.toInt32) (i_4.toInt8.toInt32) ((i_4 >>> ((8 : Int32) &&& 31)).toInt8.toInt32) k2_1_7 T7.heap n0 (Nat.le_trans Z0 sz_0_2) S__assertionsDisabled f11 Q7_1 S_HI_BYTE_SHIFT S_LO_BYTE_SHIFT) rfl (W := 0) (by decide) (g := (mkF m 32 #[vr o0, vi 0, vi 3, vr b1, vi 0, vr b2_1_7] [z0, (.ref b2_1_7)])) rfl hml.symm (argsL := [(.ref b2_1_7), z0]) (rest := []) (lenOf pd_5 rfl) rfl rfl (own_wr rfl rfl) (hb hby d377)
 obtain ⟨rfl, N10q, e10⟩ := hQ10
 have N10 := Fr.app N7 N10q
 have C0 := (KL.refl h0 []).trans K1 na0
 have C1 := C0.trans K7 na0
 refine ⟨T10, _, some (.ref b2_1_7), X10, (fun h => by cases h <;> rfl), ?_, fun fs hr => ?_⟩
 · show Q_r58_compress Z o0 i_2 i_3 i_4 k_o0 h0 n0 _ T10.heap _
   rw [e10]
   exact ⟨b2_1_7, k2_1_7, rfl, N10, C1, (Nat.le_trans K1.1 Q7_0), Q7_1⟩
 refine t_iloadN 1 X0.here hx hby d311 rfl rfl ?_
 refine st1 _ ?_
 refine t_astoreN (pc' := 4) (L' := #[vr o0, vi 0, vi 3, vr b1, .unset, .unset]) X1.here hx hby d313 rfl rfl rfl ?_
 refine t_aloadN 5 X1.here hx hby d314 rfl rfl rfl ?_
 refine t_iloadN 6 X1.here hx hby d315 rfl rfl ?_
 refine t_aloadN 7 X1.here hx hby d316 rfl rfl rfl ?_
 refine t_iconst 8 (r := 0) X1.here hx hby d317 (by decide) rfl ?_
 refine t_iloadN 9 X1.here hx hby d318 rfl rfl ?_
 refine st5 _ ?_
 refine t_istore (pc' := 14) (L' := #[vr o0, vi 0, vi 3, vr b1, vi 0, .unset]) X5.here hx hby d334 rfl rfl ?_
 refine t_iload 16 X5.here hx hby d335 rfl rfl ?_
 refine t_iloadN 17 X5.here hx hby d336 rfl rfl ?_
 refine t_icmpNo 20 X5.here hx hby d337 (by decide) rfl ?_
 refine t_aloadN 21 X5.here hx hby d338 rfl rfl rfl ?_
 refine t_iloadN 22 X5.here hx hby d339 rfl rfl ?_
 refine t_iloadN 23 X5.here hx hby d340 rfl rfl ?_
 refine st7 _ ?_
 refine t_astore (pc' := 28) (L' := #[vr o0, vi 0, vi 3, vr b1, vi 0, vr b2_1_7]) X7.here hx hby d374 rfl rfl rfl ?_
 refine t_aload 30 X7.here hx hby d375 rfl rfl rfl ?_
 refine t_iload 32 X7.here hx hby d376 rfl rfl ?_
 refine st10 _ ?_
 refine castTop (g' := (mkF m 35 #[vr o0, vi 0, vi 3, vr b1, vi 0, vr b2_1_7] [(.int i_2)])) (congrArg (fun z => mkF m 35 #[vr o0, vi 0, vi 3, vr b1, vi 0, vr b2_1_7] (Value.int z :: [])) (own_chrE hp1 hp2)) ?_
 refine t_sipush 38 (r := 255) X10.here hx hby d378 (by decide) rfl ?_
 refine t_icmpYes (pc := 38) 54 X10.here hx hby d379 (tlt hp0).2.2.1 (by decide) (by decide) ?_
 refine t_aload 56 X10.here hx hby d380 rfl rfl rfl ?_
 jvm_step X10.here [X10.here.top, hx, (hb hby d381), X10.method', hret, Value.isRef, FieldType.isReference]
 first | (intro acts; rw [hr _ acts rfl rfl rfl]) | rw [hr _ _ rfl rfl rfl]
 exact Steps.refl _
def Q_r67_coderFromArrayLen (Z : State) (o0 : Addr) (i_1 i_2 i_3 i_4 i_5 i_6 : Int32) (k_o0 : ClassId) (h0 : Heap) (n0 : Nat) (v : Option Value) (h : Heap) (L : List Loc) : Prop := v = some (.int 1) ∧ Fr n0 L ∧ h = h0
theorem r67_coderFromArrayLen (l : Launch) (Z : State) (a0 : Array Value) (hw : HW Z a0) (ws : List Jvm.Cond) (o0 : Addr) (i_1 i_2 i_3 i_4 i_5 i_6 : Int32) (k_o0 : ClassId) (h0 : Heap) (n0 : Nat) (Z0 : n0 ≤ h0.size) (V_o0 : Arv Z h0 o0 k_o0 .byte 6 [(.int i_1), (.int i_2), (.int i_3), (.int i_4), (.int i_5), (.int i_6)] z0) :
    MF l Z y31_coderFromArrayLen b31_ 2 (some .byte) ws ⟨0, 0, 0, 0⟩ #[(.ref o0), (.int 3)] h0 (Q_r67_coderFromArrayLen Z o0 i_1 i_2 i_3 i_4 i_5 i_6 k_o0 h0 n0) := by
 refine own_body (plainFor_of_name pn_StringUTF16906) (ef_4 o0 (3 : Int32)) (by decide) (by decide) ?_
 intro p e s m below meth c s₁ hx hby hml hown hnm hret hZ hh e0 X0
 have N0 := Fr.nil n0
 refine ⟨s₁, _, some (.int 1), X0, (fun h => by cases h <;> rfl), ?_, fun fs hr => ?_⟩
 · show Q_r67_coderFromArrayLen Z o0 i_1 i_2 i_3 i_4 i_5 i_6 k_o0 h0 n0 _ s₁.heap _
   rw [e0]
   exact ⟨rfl, N0, rfl⟩
 refine t_iloadN 1 X0.here hx hby d387 rfl rfl ?_
 refine t_aloadN 2 X0.here hx hby d388 rfl rfl rfl ?_
 refine own_arlen (pc' := 3) X0 hx hZ e0 V_o0 (hb hby d389) rfl ?_
 refine t_isub 4 (r := (-3 : Int32)) X0.here hx hby d390 (by decide : ((3 : Int32) - (6 : Int32)) = (-3 : Int32)) rfl ?_
 refine t_bipush 6 (r := 31) X0.here hx hby d391 (by decide) rfl ?_
 refine t_iushr 7 (r := 1) X0.here hx hby d392 (by decide : (((-3 : Int32).toUInt32 >>> ((31 : Int32) &&& 31).toUInt32).toInt32) = (1 : Int32)) rfl ?_
 refine t_i2b 8 (r := 1) X0.here hx hby d393 (by decide : ((1 : Int32).toInt8.toInt32) = (1 : Int32)) rfl ?_
 exact retN X0 hx (t := .byte) hret (by simp) (hb hby d394) hr
def WS_r57__init_ (Z : State) (o0 : Addr) : List (Addr × Nat) := [(o0, (sl1 Z)), (o0, (sl0 Z))]
def Q_r57__init_ (Z : State) (o0 o1 : Addr) (i_2 i_4 i_5 i_6 : Int32) (k_o1 : ClassId) (h0 : Heap) (n0 : Nat) (v : Option Value) (h : Heap) (L : List Loc) : Prop := ∃ b2_1_7_7 : Addr, ∃ k2_1_7_7 : ClassId, v = none ∧ Fr n0 L ∧ KL h0 h (WS_r57__init_ Z o0) ∧ h0.size ≤ b2_1_7_7 ∧ Fd1 Z h o0 (.int 1) ∧ Fd0 Z h o0 (.ref b2_1_7_7) ∧ Arv Z h b2_1_7_7 k2_1_7_7 .byte 6 [(.int (i_4.toInt8.toInt32)), (.int ((i_4 >>> ((8 : Int32) &&& 31)).toInt8.toInt32)), (.int (i_5.toInt8.toInt32)), (.int ((i_5 >>> ((8 : Int32) &&& 31)).toInt8.toInt32)), (.int (i_6.toInt8.toInt32)), (.int ((i_6 >>> ((8 : Int32) &&& 31)).toInt8.toInt32))] z0
theorem r57__init_ (l : Launch) (Z : State) (a0 : Array Value) (hw : HW Z a0) (ws : List Jvm.Cond) (o0 o1 : Addr) (i_2 i_4 i_5 i_6 : Int32) (k_o1 : ClassId) (h0 : Heap) (n0 : Nat) (Z0 : n0 ≤ h0.size) (sCS : SCS Z i_2) (O0 : Old Z n0 h0) (hp0 : ¬ (i_2 = (0 : Int32))) (V_o1 : Arv Z h0 o1 k_o1 .char 3 [(.int i_4), (.int i_5), (.int i_6)] z0) (S__assertionsDisabled : Sa5 Z (.int 1)) (S_HI_BYTE_SHIFT : Sa6 Z z0) (S_LO_BYTE_SHIFT : Sa7 Z (.int 8)) (hp1 : (255 : Int32) < i_4) (hp2 : ¬ (i_4 < (0 : Int32))) (hp3 : ¬ ((65535 : Int32) < i_4)) (F_o0_coder : Fd1 Z h0 o0 z0) (E_o0 : Ex0 Z h0 o0) (g_o0 : n0 ≤ o0) (F_o0_value : Fd0 Z h0 o0 .null) :
    MF l Z y11__init_ b13_ 6 none ws ⟨4, 2, 9, 57⟩ #[(.ref o0), (.ref o1), z0, (.int 3), .null] h0 (Q_r57__init_ Z o0 o1 i_2 i_4 i_5 i_6 k_o1 h0 n0) := by
 refine own_body (plainFor_of_name pn_String564) (ef_7 o0 o1 (0 : Int32) (3 : Int32)) (by decide) (by decide) ?_
 intro p e s m below meth c s₁ hx hby hml hown hnm hret hZ hh e0 X0
 have N0 := Fr.nil n0
 obtain ⟨T1, X1, e1, st1⟩ := initO X0 hx hZ hown (w16 hw) (w17 hw) (w18 hw) e0 (g := (mkF m 1 #[vr o0, vr o1, vi 0, vi 3, .val .null, .unset] [(.ref o0)])) rfl hml.symm rfl (hb hby d128) (by decide) (W := 0) (own_wr rfl rfl) (by decide)
 obtain ⟨T3, X3, e3, st3⟩ := getS2 X1 hx hZ hown (host := "") (Or.inl (w41 hw)) Via.refl e1 (Sta.ext O0.2 sCS) (g := (mkF m 27 #[vr o0, vr o1, vi 0, vi 3, .val .null, .unset] [])) rfl (hb hby d305)
 obtain ⟨_, T7, L7, X7, hQ7, st7⟩ := own_static X3 hx hZ hown (w58 hw) (w59 hw) (w60 hw) (w61 hw) (by decide) (r58_compress l Z a0 hw [] o1 i_4 i_5 i_6 k_o1 h0 n0 Z0 V_o1 hp1 S__assertionsDisabled S_HI_BYTE_SHIFT S_LO_BYTE_SHIFT O0 hp2 hp3) e3 (W := 0) (by decide) (g := (mkF m 36 #[vr o0, vr o1, vi 0, vi 3, .val .null, .unset] [(.int 3), z0, (.ref o1)])) rfl hml.symm (argsL := [(.ref o1), z0, (.int 3)]) (rest := []) (lenOf pd_25 rfl) rfl rfl (own_wr rfl rfl) (hb hby d310)
 obtain ⟨b2_1_7_7, k2_1_7_7, rfl, N7q, K7, Q7_0, Q7_1⟩ := hQ7
 have N7 := Fr.app N0 N7q
 obtain ⟨_, T9, L9, X9, hQ9, st9⟩ := own_static X7 hx hZ hown (w65 hw) (w66 hw) (w60 hw) (w67 hw) (by decide) (r67_coderFromArrayLen l Z a0 hw [] b2_1_7_7 (i_4.toInt8.toInt32) ((i_4 >>> ((8 : Int32) &&& 31)).toInt8.toInt32) (i_5.toInt8.toInt32) ((i_5 >>> ((8 : Int32) &&& 31)).toInt8.toInt32) (i_6.toInt8.toInt32) ((i_6 >>> ((8 : Int32) &&& 31)).toInt8.toInt32) k2_1_7_7 T7.heap n0 (Nat.le_trans Z0 K7.1) Q7_1) rfl (W := 1) (by decide) (g := (mkF m 45 #[vr o0, vr o1, vi 0, vi 3, .val .null, vr b2_1_7_7] [(.int 3), (.ref b2_1_7_7), (.ref o0)])) rfl hml.symm (argsL := [(.ref b2_1_7_7), (.int 3)]) (rest := [(.ref o0)]) (lenOf pd_26 rfl) rfl rfl (own_wr rfl rfl) (hb hby d386)
 obtain ⟨rfl, N9q, e9⟩ := hQ9
 have N9 := Fr.app N7 N9q
 have f10 := (kFld K7 F_o0_coder nw0)
 have f11 := (kExa K7 E_o0)
 obtain ⟨T12, h12, X12, e12, W12, st12⟩ := putF X9 hx hZ hown (host := "") (Or.inl (w26 hw)) Via.refl e9 f10 f11 (Or.inr ⟨(w22 hw), rfl, hnm⟩) (w6 hw) (ty := .byte) (by decide) (by decide) (by decide) (g := (mkF m 48 #[vr o0, vr o1, vi 0, vi 3, .val .null, vr b2_1_7_7] [(.int 1), (.ref o0)])) rfl rfl (hb hby d395)
 have K12 := KL.ofW W12
 have Fw12 : Fd1 Z h12 o0 (.int 1) := Fld.same W12 f10
 have N12 := Fr.snoc X12 N9 g_o0
 have f13 := (kFld K12 (kFld K7 F_o0_value nw0) (nwR (sn_1 hw) nw0))
 have f14 := (kExa K12 f11)
 obtain ⟨T15, h15, X15, e15, W15, st15⟩ := putF X12 hx hZ hown (host := "") (Or.inl (w25 hw)) Via.refl e12 f13 f14 (Or.inr ⟨(w21 hw), rfl, hnm⟩) (w6 hw) (ty := (.array .byte)) (by decide) rfl rfl (g := (mkF m 54 #[vr o0, vr o1, vi 0, vi 3, .val .null, vr b2_1_7_7] [(.ref b2_1_7_7), (.ref o0)])) rfl rfl (hb hby d398)
 have K15 := KL.ofW W15
 have Fw15 : Fd0 Z h15 o0 (.ref b2_1_7_7) := Fld.same W15 f13
 have N15 := Fr.snoc X15 N12 g_o0
 have C0 := (KL.refl h0 (WS_r57__init_ Z o0)).trans K7 na0
 have C1 := C0.trans K12 (naO (own_mi 0 rfl) na0)
 have C2 := C1.trans K15 (naO (own_mi 1 rfl) na0)
 have f16 := (kFld K15 Fw12 (nwR (sn_0 hw) nw0))
 have lt_o0 : o0 < h0.size := Fld.lt F_o0_coder
 have ne17 := lt_ne lt_o0 Q7_0
 have f18 := (kArv K15 (kArv K12 Q7_1 (naN ne17 na0)) (naN ne17 na0))
 refine ⟨T15, _, none, X15, (fun h => by cases h <;> rfl), ?_, fun fs hr => ?_⟩
 · show Q_r57__init_ Z o0 o1 i_2 i_4 i_5 i_6 k_o1 h0 n0 _ T15.heap _
   rw [e15]
   exact ⟨b2_1_7_7, k2_1_7_7, rfl, N15, C2, Q7_0, f16, Fw15, f18⟩
 refine t_aloadN 1 X0.here hx hby d127 rfl rfl rfl ?_
 refine st1 _ ?_
 refine t_iloadN 5 X1.here hx hby d129 rfl rfl ?_
 refine t_ifYes (pc := 5) 27 X1.here hx hby d130 (by decide) (by decide) (by decide) ?_
 refine st3 _ ?_
 refine t_ifNo 33 X3.here hx hby d306 ((if0 _ _).trans (feq hp0).1) rfl ?_
 refine t_aloadN 34 X3.here hx hby d307 rfl rfl rfl ?_
 refine t_iloadN 35 X3.here hx hby d308 rfl rfl ?_
 refine t_iloadN 36 X3.here hx hby d309 rfl rfl ?_
 refine st7 _ ?_
 refine t_astore (pc' := 41) (L' := #[vr o0, vr o1, vi 0, vi 3, .val .null, vr b2_1_7_7]) X7.here hx hby d382 rfl rfl rfl ?_
 refine t_aloadN 42 X7.here hx hby d383 rfl rfl rfl ?_
 refine t_aload 44 X7.here hx hby d384 rfl rfl rfl ?_
 refine t_iloadN 45 X7.here hx hby d385 rfl rfl ?_
 refine st9 _ ?_
 refine st12 _ ?_
 refine t_aloadN 52 X12.here hx hby d396 rfl rfl rfl ?_
 refine t_aload 54 X12.here hx hby d397 rfl rfl rfl ?_
 refine st15 _ ?_
 exact X15.returnOut hx hret (hb hby d399) hr
def WS_r56__init_ (Z : State) (o0 : Addr) : List (Addr × Nat) := [(o0, (sl1 Z)), (o0, (sl0 Z))]
def Q_r56__init_ (Z : State) (o0 o1 : Addr) (i_1 i_2 i_3 : Int32) (k_o1 : ClassId) (i_4 : Int32) (h0 : Heap) (n0 : Nat) (v : Option Value) (h : Heap) (L : List Loc) : Prop := ∃ b2_1_7_7_5 : Addr, ∃ k2_1_7_7_5 : ClassId, v = none ∧ Fr n0 L ∧ KL h0 h (WS_r56__init_ Z o0) ∧ h0.size ≤ b2_1_7_7_5 ∧ Fd1 Z h o0 (.int 1) ∧ Fd0 Z h o0 (.ref b2_1_7_7_5) ∧ Arv Z h b2_1_7_7_5 k2_1_7_7_5 .byte 6 [(.int (i_1.toInt8.toInt32)), (.int ((i_1 >>> ((8 : Int32) &&& 31)).toInt8.toInt32)), (.int (i_2.toInt8.toInt32)), (.int ((i_2 >>> ((8 : Int32) &&& 31)).toInt8.toInt32)), (.int (i_3.toInt8.toInt32)), (.int ((i_3 >>> ((8 : Int32) &&& 31)).toInt8.toInt32))] z0
theorem r56__init_ (l : Launch) (Z : State) (a0 : Array Value) (hw : HW Z a0) (ws : List Jvm.Cond) (o0 o1 : Addr) (i_1 i_2 i_3 : Int32) (k_o1 : ClassId) (i_4 : Int32) (h0 : Heap) (n0 : Nat) (Z0 : n0 ≤ h0.size) (V_o1 : Arv Z h0 o1 k_o1 .char 3 [(.int i_1), (.int i_2), (.int i_3)] z0) (sCS : SCS Z i_4) (S__assertionsDisabled : Sa5 Z (.int 1)) (S_HI_BYTE_SHIFT : Sa6 Z z0) (S_LO_BYTE_SHIFT : Sa7 Z (.int 8)) (F_o0_coder : Fd1 Z h0 o0 z0) (E_o0 : Ex0 Z h0 o0) (F_o0_value : Fd0 Z h0 o0 .null) (O0 : Old Z n0 h0) (hp0 : ¬ (i_4 = (0 : Int32))) (hp1 : (255 : Int32) < i_1) (hp2 : ¬ (i_1 < (0 : Int32))) (hp3 : ¬ ((65535 : Int32) < i_1)) (g_o0 : n0 ≤ o0) :
    MF l Z y12__init_ b12_ 2 none ws ⟨5, 2, 9, 74⟩ #[(.ref o0), (.ref o1)] h0 (Q_r56__init_ Z o0 o1 i_1 i_2 i_3 k_o1 i_4 h0 n0) := by
 refine own_body (plainFor_of_name pn_String564) (ef_5 o0 o1) (by decide) (by decide) ?_
 intro p e s m below meth c s₁ hx hby hml hown hnm hret hZ hh e0 X0
 have N0 := Fr.nil n0
 obtain ⟨_, T5, L5, X5, hQ5, st5⟩ := own_init X0 hx hZ rfl hown (w12 hw) (w13 hw) (w7 hw) (w15 hw) (by decide) (r57__init_ l Z a0 hw [] o0 o1 i_4 i_1 i_2 i_3 k_o1 h0 n0 Z0 sCS O0 hp0 V_o1 S__assertionsDisabled S_HI_BYTE_SHIFT S_LO_BYTE_SHIFT hp1 hp2 hp3 F_o0_coder E_o0 g_o0 F_o0_value) e0 (W := 0) (by decide) (g := (mkF m 6 #[vr o0, vr o1] [.null, (.int 3), z0, (.ref o1), (.ref o0)])) rfl hml.symm (argsL := [(.ref o1), z0, (.int 3), .null]) (rest := []) (lenOf pd_9 rfl) rfl rfl (own_wr rfl rfl) (hb hby d126)
 obtain ⟨b2_1_7_7_5, k2_1_7_7_5, rfl, N5q, K5, Q5_0, Q5_1, Q5_2, Q5_3⟩ := hQ5
 have N5 := Fr.app N0 N5q
 have C0 := (KL.refl h0 (WS_r56__init_ Z o0)).trans K5 (naO (own_mi 0 rfl) (naO (own_mi 1 rfl) na0))
 refine ⟨T5, _, none, X5, (fun h => by cases h <;> rfl), ?_, fun fs hr => ?_⟩
 · show Q_r56__init_ Z o0 o1 i_1 i_2 i_3 k_o1 i_4 h0 n0 _ T5.heap _
   exact ⟨b2_1_7_7_5, k2_1_7_7_5, rfl, N5, C0, Q5_0, Q5_1, Q5_2, Q5_3⟩
 refine t_aloadN 1 X0.here hx hby d120 rfl rfl rfl ?_
 refine t_aloadN 2 X0.here hx hby d121 rfl rfl rfl ?_
 refine t_iconst 3 (r := 0) X0.here hx hby d122 (by decide) rfl ?_
 refine t_aloadN 4 X0.here hx hby d123 rfl rfl rfl ?_
 refine own_arlen (pc' := 5) X0 hx hZ e0 V_o1 (hb hby d124) rfl ?_
 refine t_aconst_null 6 X0.here hx hby d125 rfl ?_
 refine st5 _ ?_
 exact X5.returnOut hx hret (hb hby d140) hr
theorem d418 : decode b11_ 71 = .ok (.areturn, 1) := by decide +kernel
def Q_r55_make (Z : State) (i_1 i_2 i_3 i_10 : Int32) (h0 : Heap) (n0 : Nat) (v : Option Value) (h : Heap) (L : List Loc) : Prop := ∃ b4 : Addr, ∃ b2_1_7_7_5_11 : Addr, ∃ k2_1_7_7_5_11 : ClassId, v = some (.ref b4) ∧ Fr n0 L ∧ KL h0 h [] ∧ h0.size ≤ b4 ∧ h0.size ≤ b2_1_7_7_5_11 ∧ b4 ≠ b2_1_7_7_5_11 ∧ Ex0 Z h b4 ∧ Fd0 Z h b4 (.ref b2_1_7_7_5_11) ∧ Fd1 Z h b4 (.int 1) ∧ Arv Z h b2_1_7_7_5_11 k2_1_7_7_5_11 .byte 6 [(.int (i_1.toInt8.toInt32)), (.int ((i_1 >>> ((8 : Int32) &&& 31)).toInt8.toInt32)), (.int (i_2.toInt8.toInt32)), (.int ((i_2 >>> ((8 : Int32) &&& 31)).toInt8.toInt32)), (.int (i_3.toInt8.toInt32)), (.int ((i_3 >>> ((8 : Int32) &&& 31)).toInt8.toInt32))] z0
theorem r55_make (l : Launch) (Z : State) (a0 : Array Value) (hw : HW Z a0) (ws : List Jvm.Cond) (i_1 i_2 i_3 i_10 : Int32) (h0 : Heap) (n0 : Nat) (Z0 : n0 ≤ h0.size) (hp0 : ¬ (i_1 < (0 : Int32))) (hp1 : ¬ ((65535 : Int32) < i_1)) (hp2 : ¬ (i_2 < (0 : Int32))) (hp3 : ¬ ((65535 : Int32) < i_2)) (hp4 : ¬ (i_3 < (0 : Int32))) (hp5 : ¬ ((65535 : Int32) < i_3)) (sCS : SCS Z i_10) (S__assertionsDisabled : Sa5 Z (.int 1)) (S_HI_BYTE_SHIFT : Sa6 Z z0) (S_LO_BYTE_SHIFT : Sa7 Z (.int 8)) (O0 : Old Z n0 h0) (hp6 : ¬ (i_10 = (0 : Int32))) (hp7 : (255 : Int32) < i_1) :
    MF l Z y13_make b11_ 4 (some (.object "java/lang/String")) ws ⟨6, 4, 16, 88⟩ #[(.int 3), (.int i_1), (.int i_2), (.int i_3)] h0 (Q_r55_make Z i_1 i_2 i_3 i_10 h0 n0) := by
 refine own_body (plainFor_of_name pn_PaymentFrequencyUnitOfPinLaw855) (ef_8 (3 : Int32) i_1 i_2 i_3) (by decide) (by decide) ?_
 intro p e s m below meth c s₁ hx hby hml hown hnm hret hZ hh e0 X0
 have N0 := Fr.nil n0
 obtain ⟨T4, h4, X4, e4, E4, A4, D4, -, st4⟩ := newO X0 hx hZ hown (w5 hw) (w6 hw) (w7 hw) e0 (g := (mkF m 49 #[vi 3, vi i_1, vi i_2, vi i_3] [])) rfl (hb hby d401) (by decide) (by decide)
 obtain ⟨b4, g4⟩ : ∃ z, z = h0.size := ⟨_, rfl⟩
 rw [← g4] at A4 D4 st4
 have ge_b4 : h0.size ≤ b4 := Nat.le_of_eq g4.symm
 have K4 := KL.ofE E4
 have F_b4_value : Fd0 Z h4 b4 .null := D4 (Or.inr (w21 hw)) (ty := (.array .byte)) (by decide)
 have F_b4_coder : Fd1 Z h4 b4 z0 := D4 (Or.inr (w22 hw)) (ty := .byte) (by decide)
 obtain ⟨T5, h5, k5, X5, e5, E5, A5, st5⟩ := newP (aty := .char) X4 hx hZ (w8 hw) e4 (g := (mkF m 54 #[vi 3, vi i_1, vi i_2, vi i_3] [(.int 3), (.ref b4), (.ref b4)])) rfl (hb hby d404) rfl (by decide) (cap := 3) (by decide) (by decide) (by decide) (by decide)
 obtain ⟨b5, g5⟩ : ∃ z, z = h4.size := ⟨_, rfl⟩
 rw [← g5] at A5 st5
 have ge_b5 : h4.size ≤ b5 := Nat.le_of_eq g5.symm
 have K5 := KL.ofE E5
 have V5 : Arv Z h5 b5 k5 .char 3 [z0, z0, z0] z0 := (Arv.new A5 (by decide)).pad (pad_rep [] z0 3)
 obtain ⟨T6, h6, X6, e6, W6, V6, st6⟩ := own_astC X5 hx hZ e5 V5 (j := 0) (by decide) 0 rfl (Nat.le_of_ble_eq_true rfl) (g := (mkF m 59 #[vi 3, vi i_1, vi i_2, vi i_3] [(.int i_1), z0, (.ref b5), (.ref b5), (.ref b4), (.ref b4)])) rfl rfl (hb hby d408)
 rw [show (nar .char i_1) = i_1 from (own_c2d hp0 hp1)] at V6
 have gg7 := Nat.le_trans Z0 (Nat.le_trans K4.1 ge_b5)
 have K6 := KL.ofW W6
 replace V6 : Arv Z h6 b5 k5 .char 3 [(.int i_1), z0, z0] z0 := V6
 have N6 := Fr.snoc X6 N0 gg7
 obtain ⟨T8, h8, X8, e8, W8, V8, st8⟩ := own_astC X6 hx hZ e6 V6 (j := 1) (by decide) 1 rfl (Nat.le_of_ble_eq_true rfl) (g := (mkF m 63 #[vi 3, vi i_1, vi i_2, vi i_3] [(.int i_2), (.int 1), (.ref b5), (.ref b5), (.ref b4), (.ref b4)])) rfl rfl (hb hby d412)
 rw [show (nar .char i_2) = i_2 from (own_c2d hp2 hp3)] at V8
 have K8 := KL.ofW W8
 replace V8 : Arv Z h8 b5 k5 .char 3 [(.int i_1), (.int i_2), z0] z0 := V8
 have N8 := Fr.snoc X8 N6 gg7
 obtain ⟨T9, h9, X9, e9, W9, V9, st9⟩ := own_astC X8 hx hZ e8 V8 (j := 2) (by decide) 2 rfl (Nat.le_of_ble_eq_true rfl) (g := (mkF m 67 #[vi 3, vi i_1, vi i_2, vi i_3] [(.int i_3), (.int 2), (.ref b5), (.ref b5), (.ref b4), (.ref b4)])) rfl rfl (hb hby d416)
 rw [show (nar .char i_3) = i_3 from (own_c2d hp4 hp5)] at V9
 have K9 := KL.ofW W9
 replace V9 : Arv Z h9 b5 k5 .char 3 [(.int i_1), (.int i_2), (.int i_3)] z0 := V9
 have N9 := Fr.snoc X9 N8 gg7
 have lt_b4 : b4 < h4.size := Exa.lt A4
 have ne12 := lt_ne lt_b4 ge_b5
 have f13 := (kFld K9 (kFld K8 (kFld K6 (kFld K5 F_b4_coder nw0) (nwL ne12 nw0)) (nwL ne12 nw0)) (nwL ne12 nw0))
 have f14 := (kExa K9 (kExa K8 (kExa K6 (kExa K5 A4))))
 have f15 := (kFld K9 (kFld K8 (kFld K6 (kFld K5 F_b4_value nw0) (nwL ne12 nw0)) (nwL ne12 nw0)) (nwL ne12 nw0))
 have f16 := (kOld K9 (kOld K8 (kOld K6 (kOld K5 (kOld K4 O0 na0) na0) (naG gg7 na0)) (naG gg7 na0)) (naG gg7 na0))
 have gg17 := Nat.le_trans Z0 ge_b4
 have sz_0_2 := (Nat.le_trans K4.1 K5.1)
 have sz_0_3 := (Nat.le_trans sz_0_2 K6.1)
 have sz_0_4 := (Nat.le_trans sz_0_3 K8.1)
 have sz_0_5 := (Nat.le_trans sz_0_4 K9.1)
 obtain ⟨_, T11, L11, X11, hQ11, st11⟩ := own_init X9 hx hZ rfl hown (w9 hw) (w10 hw) (w7 hw) (w11 hw) (by decide) (r56__init_ l Z a0 hw [] b4 b5 i_1 i_2 i_3 k5 i_10 h9 n0 (Nat.le_trans Z0 sz_0_5) V9 sCS S__assertionsDisabled S_HI_BYTE_SHIFT S_LO_BYTE_SHIFT f13 f14 f15 f16 hp6 hp7 hp0 hp1 gg17) e9 (W := 1) (by decide) (g := (mkF m 68 #[vi 3, vi i_1, vi i_2, vi i_3] [(.ref b5), (.ref b4), (.ref b4)])) rfl hml.symm (argsL := [(.ref b5)]) (rest := [(.ref b4)]) (lenOf pd_10 rfl) rfl rfl (own_wr rfl rfl) (hb hby d417)
 obtain ⟨b2_1_7_7_5_11, k2_1_7_7_5_11, rfl, N11q, K11, Q11_0, Q11_1, Q11_2, Q11_3⟩ := hQ11
 have N11 := Fr.app N9 N11q
 have C0 := (KL.refl h0 []).trans K4 na0
 have C1 := C0.trans K5 na0
 have C2 := C1.trans K6 (naO (Or.inr (Nat.le_trans K4.1 ge_b5)) na0)
 have C3 := C2.trans K8 (naO (Or.inr (Nat.le_trans K4.1 ge_b5)) na0)
 have C4 := C3.trans K9 (naO (Or.inr (Nat.le_trans K4.1 ge_b5)) na0)
 have C5 := C4.trans K11 (naO (Or.inr ge_b4) (naO (Or.inr ge_b4) na0))
 have sz_1_3 := (Nat.le_trans K5.1 K6.1)
 have sz_1_4 := (Nat.le_trans sz_1_3 K8.1)
 have sz_1_5 := (Nat.le_trans sz_1_4 K9.1)
 have ne19 := lt_ne (Nat.lt_of_lt_of_le lt_b4 sz_1_5) Q11_0
 have f20 := (kExa K11 f14)
 refine ⟨T11, _, some (.ref b4), X11, (fun h => by cases h <;> rfl), ?_, fun fs hr => ?_⟩
 · show Q_r55_make Z i_1 i_2 i_3 i_10 h0 n0 _ T11.heap _
   exact ⟨b4, b2_1_7_7_5_11, k2_1_7_7_5_11, rfl, N11, C5, ge_b4, (Nat.le_trans sz_0_5 Q11_0), ne19, f20, Q11_2, Q11_1, Q11_3⟩
 refine t_iloadN 1 X0.here hx hby d113 rfl rfl ?_
 refine t_ifYes (pc := 1) 15 X0.here hx hby d114 (by decide) (by decide) (by decide) ?_
 refine t_iloadN 16 X0.here hx hby d151 rfl rfl ?_
 refine t_iconst 17 (r := 1) X0.here hx hby d152 (by decide) rfl ?_
 refine t_icmpYes (pc := 17) 25 X0.here hx hby d153 (by decide) (by decide) (by decide) ?_
 refine t_iloadN 26 X0.here hx hby d289 rfl rfl ?_
 refine t_iconst 27 (r := 2) X0.here hx hby d290 (by decide) rfl ?_
 refine t_icmpYes (pc := 27) 49 X0.here hx hby d291 (by decide) (by decide) (by decide) ?_
 refine st4 _ ?_
 refine t_dup 53 X4.here hx hby d402 rfl rfl ?_
 refine t_iconst 54 (r := 3) X4.here hx hby d403 (by decide) rfl ?_
 refine st5 _ ?_
 refine t_dup 57 X5.here hx hby d405 rfl rfl ?_
 refine t_iconst 58 (r := 0) X5.here hx hby d406 (by decide) rfl ?_
 refine t_iloadN 59 X5.here hx hby d407 rfl rfl ?_
 refine st6 _ ?_
 refine t_dup 61 X6.here hx hby d409 rfl rfl ?_
 refine t_iconst 62 (r := 1) X6.here hx hby d410 (by decide) rfl ?_
 refine t_iloadN 63 X6.here hx hby d411 rfl rfl ?_
 refine st8 _ ?_
 refine t_dup 65 X8.here hx hby d413 rfl rfl ?_
 refine t_iconst 66 (r := 2) X8.here hx hby d414 (by decide) rfl ?_
 refine t_iloadN 67 X8.here hx hby d415 rfl rfl ?_
 refine st9 _ ?_
 refine st11 _ ?_
 jvm_step X11.here [X11.here.top, hx, (hb hby d418), X11.method', hret, Value.isRef, FieldType.isReference]
 first | (intro acts; rw [hr _ acts rfl rfl rfl]) | rw [hr _ _ rfl rfl rfl]
 exact Steps.refl _
def Q_r69_length (Z : State) (o0 o_1 : Addr) (i_3 i_4 i_5 i_6 i_7 i_8 : Int32) (k_o_1 : ClassId) (i_9 : Int32) (h0 : Heap) (n0 : Nat) (v : Option Value) (h : Heap) (L : List Loc) : Prop := v = some (.int 3) ∧ Fr n0 L ∧ h = h0
theorem r69_length (l : Launch) (Z : State) (a0 : Array Value) (hw : HW Z a0) (ws : List Jvm.Cond) (o0 o_1 : Addr) (i_3 i_4 i_5 i_6 i_7 i_8 : Int32) (k_o_1 : ClassId) (i_9 : Int32) (h0 : Heap) (n0 : Nat) (Z0 : n0 ≤ h0.size) (F_o0_value : Fd0 Z h0 o0 (.ref o_1)) (V_o_1 : Arv Z h0 o_1 k_o_1 .byte 6 [(.int i_3), (.int i_4), (.int i_5), (.int i_6), (.int i_7), (.int i_8)] z0) (E_o0 : Ex0 Z h0 o0) (sCS : SCS Z i_9) (F_o0_coder : Fd1 Z h0 o0 (.int 1)) (O0 : Old Z n0 h0) (hp0 : ¬ (i_9 = (0 : Int32))) :
    MF l Z y3_length b3_ 1 (some .int) ws ⟨1, 0, 0, 13⟩ #[(.ref o0)] h0 (Q_r69_length Z o0 o_1 i_3 i_4 i_5 i_6 i_7 i_8 k_o_1 i_9 h0 n0) := by
 refine own_body (plainFor_of_name pn_String564) (ef_3 o0) (by decide) (by decide) ?_
 intro p e s m below meth c s₁ hx hby hml hown hnm hret hZ hh e0 X0
 have N0 := Fr.nil n0
 obtain ⟨T2, X2, e2, st2⟩ := getF X0 hx hZ hown (host := "") (Or.inl (w25 hw)) Via.refl e0 F_o0_value (g := (mkF m 1 #[vr o0] [(.ref o0)])) rfl rfl (hb hby d18)
 obtain ⟨_, T10, L10, X10, hQ10, st10⟩ := own_virtual X2 hx hZ hown (w36 hw) (w37 hw) (nfS hZ (w39 hw)) (w39 hw) (w38 hw) (w7 hw) (w40 hw) (by decide) (r33_coder l Z a0 hw [] o0 i_9 h0 n0 Z0 sCS O0 hp0 F_o0_coder) e2 E_o0 (W := 1) (by decide) (g := (mkF m 6 #[vr o0] [(.ref o0), (.int 6)])) rfl hml.symm (argsL := []) (rest := [(.int 6)]) (lenOf pd_1 rfl) rfl rfl (own_wr rfl rfl) (hb hby d21)
 obtain ⟨rfl, N10q, e10⟩ := hQ10
 have N10 := Fr.app N0 N10q
 refine ⟨T10, _, some (.int 3), X10, (fun h => by cases h <;> rfl), ?_, fun fs hr => ?_⟩
 · show Q_r69_length Z o0 o_1 i_3 i_4 i_5 i_6 i_7 i_8 k_o_1 i_9 h0 n0 _ T10.heap _
   rw [e10]
   exact ⟨rfl, N10, rfl⟩
 refine t_aloadN 1 X0.here hx hby d17 rfl rfl rfl ?_
 refine st2 _ ?_
 refine own_arlen (pc' := 5) X2 hx hZ e2 V_o_1 (hb hby d19) rfl ?_
 refine t_aloadN 6 X2.here hx hby d20 rfl rfl rfl ?_
 refine st10 _ ?_
 refine t_ishr 10 (r := 3) X10.here hx hby d28 (by decide : ((6 : Int32) >>> ((1 : Int32) &&& 31)) = (3 : Int32)) rfl ?_
 exact retI X10 hx hret (hb hby d29) hr
def Q_r68_unitOf (Z : State) (o0 o_1 : Addr) (i_2 i_3 i_4 i_5 i_6 i_7 : Int32) (k_o_1 : ClassId) (i_8 : Int32) (o_10 : Addr) (h0 : Heap) (n0 : Nat) (v : Option Value) (h : Heap) (L : List Loc) : Prop := v = some (.ref o_10) ∧ Fr n0 L ∧ h = h0
theorem r68_unitOf (l : Launch) (Z : State) (a0 : Array Value) (hw : HW Z a0) (ws : List Jvm.Cond) (o0 o_1 : Addr) (i_2 i_3 i_4 i_5 i_6 i_7 : Int32) (k_o_1 : ClassId) (i_8 : Int32) (o_10 : Addr) (h0 : Heap) (n0 : Nat) (Z0 : n0 ≤ h0.size) (E_o0 : Ex0 Z h0 o0) (F_o0_value : Fd0 Z h0 o0 (.ref o_1)) (V_o_1 : Arv Z h0 o_1 k_o_1 .byte 6 [(.int i_2), (.int i_3), (.int i_4), (.int i_5), (.int i_6), (.int i_7)] z0) (sCS : SCS Z i_8) (F_o0_coder : Fd1 Z h0 o0 (.int 1)) (O0 : Old Z n0 h0) (hp0 : ¬ (i_8 = (0 : Int32))) (S_EMPTY : Sa4 Z (.ref o_10)) :
    MF l Z y9_unitOf b2_ 2 (some (.object "java/util/Optional")) ws ⟨2, 0, 0, 25⟩ #[(.ref o0)] h0 (Q_r68_unitOf Z o0 o_1 i_2 i_3 i_4 i_5 i_6 i_7 k_o_1 i_8 o_10 h0 n0) := by
 refine own_body (plainFor_of_name pn_PaymentFrequency668) (ef_6 o0) (by decide) (by decide) ?_
 intro p e s m below meth c s₁ hx hby hml hown hnm hret hZ hh e0 X0
 have N0 := Fr.nil n0
 obtain ⟨_, T9, L9, X9, hQ9, st9⟩ := own_virtual X0 hx hZ hown (w31 hw) (w32 hw) (nfS hZ (w34 hw)) (w34 hw) (w33 hw) (w7 hw) (w35 hw) (by decide) (r69_length l Z a0 hw [] o0 o_1 i_2 i_3 i_4 i_5 i_6 i_7 k_o_1 i_8 h0 n0 Z0 F_o0_value V_o_1 E_o0 sCS F_o0_coder O0 hp0) e0 E_o0 (W := 0) (by decide) (g := (mkF m 3 #[vr o0, .val .null] [(.ref o0)])) rfl hml.symm (argsL := []) (rest := []) (lenOf pd_2 rfl) rfl rfl (own_wr rfl rfl) (hb hby d16)
 obtain ⟨rfl, N9q, e9⟩ := hQ9
 have N9 := Fr.app N0 N9q
 obtain ⟨_, T11, L11, X11, hQ11, st11⟩ := own_static X9 hx hZ hown (w42 hw) (w43 hw) (w44 hw) (w45 hw) (by decide) (r13_ofNullable l Z a0 hw [] o_10 h0 n0 Z0 S_EMPTY O0) e9 (W := 0) (by decide) (g := (mkF m 93 #[vr o0, .val .null] [.null])) rfl hml.symm (argsL := [.null]) (rest := []) (lenOf pd_8 rfl) rfl rfl (own_wr rfl rfl) (hb hby d67)
 obtain ⟨rfl, N11q, e11⟩ := hQ11
 have N11 := Fr.app N9 N11q
 refine ⟨T11, _, some (.ref o_10), X11, (fun h => by cases h <;> rfl), ?_, fun fs hr => ?_⟩
 · show Q_r68_unitOf Z o0 o_1 i_2 i_3 i_4 i_5 i_6 i_7 k_o_1 i_8 o_10 h0 n0 _ T11.heap _
   rw [e11]
   exact ⟨rfl, N11, rfl⟩
 refine t_aconst_null 1 X0.here hx hby d13 rfl ?_
 refine t_astoreN (pc' := 2) (L' := #[vr o0, .val .null]) X0.here hx hby d14 rfl rfl rfl ?_
 refine t_aloadN 3 X0.here hx hby d15 rfl rfl rfl ?_
 refine st9 _ ?_
 refine t_iconst 7 (r := 1) X9.here hx hby d30 (by decide) rfl ?_
 refine t_icmpYes (pc := 7) 92 X9.here hx hby d31 (by decide) (by decide) (by decide) ?_
 refine t_aloadN 93 X9.here hx hby d66 rfl rfl rfl ?_
 refine st11 _ ?_
 jvm_step X11.here [X11.here.top, hx, (hb hby d81), X11.method', hret, Value.isRef, FieldType.isReference]
 first | (intro acts; rw [hr _ acts rfl rfl rfl]) | rw [hr _ _ rfl rfl rfl]
 exact Steps.refl _
def Q_r70_expected (Z : State) (i_1 : Int32) (h0 : Heap) (n0 : Nat) (v : Option Value) (h : Heap) (L : List Loc) : Prop := v = some .null ∧ Fr n0 L ∧ h = h0
theorem r70_expected (l : Launch) (Z : State) (a0 : Array Value) (hw : HW Z a0) (ws : List Jvm.Cond) (i_1 : Int32) (h0 : Heap) (n0 : Nat) (Z0 : n0 ≤ h0.size) :
    MF l Z y10_expected b10_ 2 (some (.object "java/time/temporal/ChronoUnit")) ws ⟨0, 0, 0, 0⟩ #[(.int 3), (.int i_1)] h0 (Q_r70_expected Z i_1 h0 n0) := by
 refine own_body (plainFor_of_name pn_PaymentFrequencyUnitOfPinLaw855) (ef_2 (3 : Int32) i_1) (by decide) (by decide) ?_
 intro p e s m below meth c s₁ hx hby hml hown hnm hret hZ hh e0 X0
 have N0 := Fr.nil n0
 refine ⟨s₁, _, some .null, X0, (fun h => by cases h <;> rfl), ?_, fun fs hr => ?_⟩
 · show Q_r70_expected Z i_1 h0 n0 _ s₁.heap _
   rw [e0]
   exact ⟨rfl, N0, rfl⟩
 refine t_iloadN 1 X0.here hx hby d82 rfl rfl ?_
 refine t_iconst 2 (r := 1) X0.here hx hby d83 (by decide) rfl ?_
 refine t_icmpNo 5 X0.here hx hby d84 (by decide) rfl ?_
 refine t_aconst_null 6 X0.here hx hby d144 rfl ?_
 jvm_step X0.here [X0.here.top, hx, (hb hby d145), X0.method', hret, Value.isRef, FieldType.isReference]
 first | (intro acts; rw [hr _ acts rfl rfl rfl]) | rw [hr _ _ rfl rfl rfl]
 exact Steps.refl _
theorem law_a3_a (l : Launch) (Z : State) (a0 : Array Value) (hw : HW Z a0) (ws : List Jvm.Cond) (p0 p1 p2 p3 cs : Int32) (fm : Value) (st_EMPTY st_DAYS st_MONTHS st_YEARS : Addr) (h0 : Heap) (n0 : Nat) (Z0 : n0 ≤ h0.size) (ha : (255 : Int32) < (own_ch p1)) (hcs : ¬ (cs = (0 : Int32))) (hln : (p0 &&& (3 : Int32)) = (3 : Int32)) (hbit : (((p0.toUInt32 >>> ((2 : Int32) &&& 31).toUInt32).toInt32) &&& (1 : Int32)) = (0 : Int32)) (sCS : SCS Z cs) (S__assertionsDisabled : Sa5 Z (.int 1)) (S_HI_BYTE_SHIFT : Sa6 Z z0) (S_LO_BYTE_SHIFT : Sa7 Z (.int 8)) (O0 : Old Z n0 h0) (S_EMPTY : Sa4 Z (.ref st_EMPTY)) (E_st_EMPTY : Ex1 Z h0 st_EMPTY) (F_st_EMPTY_value : Fd2 Z h0 st_EMPTY .null) :
    LawM l Z ws p0 p1 p2 p3 h0 n0 := by
 refine own_bodyH (k := 4) (n := 16) (y := x) (Q := fun v _ L => Q_law n0 v L) (own_EW hw) (plainFor_of_name pn_PaymentFrequencyUnitOfPinLaw855) (ef_law p0 p1 p2 p3) (by decide) (by decide) ?_
 intro p e s m below meth c s₁ hx hby hml hown hnm hret hZ e0 hS0 hk0 X0 hC0 hSF0
 have N0 := Fr.nil n0
 obtain ⟨_, T1, L1, X1, hQ1, st1⟩ := own_static X0 hx hZ hown (w1 hw) (w2 hw) (w3 hw) (w4 hw) (by decide) (r55_make l Z a0 hw [] (own_ch p1) (own_ch p2) (own_ch p3) cs h0 n0 Z0 (own_m16a p1) (own_m16b p1) (own_m16a p2) (own_m16b p2) (own_m16a p3) (own_m16b p3) sCS S__assertionsDisabled S_HI_BYTE_SHIFT S_LO_BYTE_SHIFT O0 hcs ha) e0 (W := 0) (by decide) (g := (mkF m 102 #[vi p0, vi p1, vi p2, vi p3, vi 3, vi ((own_ch p1)), vi ((own_ch p2)), vi ((own_ch p3)), .unset, .unset, .unset] [(.int (own_ch p3)), (.int (own_ch p2)), (.int (own_ch p1)), (.int 3)])) rfl hml.symm (argsL := [(.int 3), (.int (own_ch p1)), (.int (own_ch p2)), (.int (own_ch p3))]) (rest := []) (lenOf pd_11 rfl) rfl rfl (own_wr rfl rfl) (hb hby at_102)
 obtain ⟨b4_1, b2_1_7_7_5_11_1, k2_1_7_7_5_11_1, rfl, N1q, K1, Q1_0, Q1_1, Q1_2, Q1_3, Q1_4, Q1_5, Q1_6⟩ := hQ1
 have N1 := Fr.app N0 N1q
 have Ck0 := own_chK K1 na0 (CHr.refl hC0).1
 have Ah1 := (CHr.refl hC0).trans Ck0.1
 have f5 := (kOld K1 O0 na0)
 obtain ⟨_, T4, L4, X4, hQ4, st4⟩ := own_static X1 hx hZ hown (w27 hw) (w28 hw) (w29 hw) (w30 hw) (by decide) (r68_unitOf l Z a0 hw [] b4_1 b2_1_7_7_5_11_1 ((own_ch p1).toInt8.toInt32) (((own_ch p1) >>> ((8 : Int32) &&& 31)).toInt8.toInt32) ((own_ch p2).toInt8.toInt32) (((own_ch p2) >>> ((8 : Int32) &&& 31)).toInt8.toInt32) ((own_ch p3).toInt8.toInt32) (((own_ch p3) >>> ((8 : Int32) &&& 31)).toInt8.toInt32) k2_1_7_7_5_11_1 cs st_EMPTY T1.heap n0 (Nat.le_trans Z0 K1.1) Q1_3 Q1_4 Q1_6 sCS Q1_5 f5 hcs S_EMPTY) rfl (W := 0) (by decide) (g := (mkF m 109 #[vi p0, vi p1, vi p2, vi p3, vi 3, vi ((own_ch p1)), vi ((own_ch p2)), vi ((own_ch p3)), vr b4_1, .unset, .unset] [(.ref b4_1)])) rfl hml.symm (argsL := [(.ref b4_1)]) (rest := []) (lenOf pd_12 rfl) rfl rfl (own_wr rfl rfl) (hb hby at_109)
 obtain ⟨rfl, N4q, e4⟩ := hQ4
 have N4 := Fr.app N1 N4q
 obtain ⟨_, T6, L6, X6, hQ6, st6⟩ := own_static X4 hx hZ hown (w47 hw) (w48 hw) (w3 hw) (w49 hw) (by decide) (r70_expected l Z a0 hw [] (own_ch p1) T1.heap n0 (Nat.le_trans Z0 K1.1)) e4 (W := 0) (by decide) (g := (mkF m 118 #[vi p0, vi p1, vi p2, vi p3, vi 3, vi ((own_ch p1)), vi ((own_ch p2)), vi ((own_ch p3)), vr b4_1, vr st_EMPTY, .unset] [(.int (own_ch p1)), (.int 3)])) rfl hml.symm (argsL := [(.int 3), (.int (own_ch p1))]) (rest := []) (lenOf pd_13 rfl) rfl rfl (own_wr rfl rfl) (hb hby at_118)
 obtain ⟨rfl, N6q, e6⟩ := hQ6
 have N6 := Fr.app N4 N6q
 have f8 := (kFld K1 F_st_EMPTY_value nw0)
 have f9 := (kExa K1 E_st_EMPTY)
 obtain ⟨_, T7, L7, X7, hQ7, st7⟩ := own_virtual X6 hx hZ hown (w50 hw) (w51 hw) (nfS hZ (w53 hw)) (w53 hw) (w52 hw) (w44 hw) (w54 hw) (by decide) (r15_isPresent l Z a0 hw [] st_EMPTY T1.heap n0 (Nat.le_trans Z0 K1.1) f8) e6 f9 (W := 0) (by decide) (g := (mkF m 130 #[vi p0, vi p1, vi p2, vi p3, vi 3, vi ((own_ch p1)), vi ((own_ch p2)), vi ((own_ch p3)), vr b4_1, vr st_EMPTY, .val .null] [(.ref st_EMPTY)])) rfl hml.symm (argsL := []) (rest := []) (lenOf pd_3 rfl) rfl rfl (own_wr rfl rfl) (hb hby at_130)
 obtain ⟨rfl, N7q, e7⟩ := hQ7
 have N7 := Fr.app N6 N7q
 refine ⟨T7, _, some (.int 1), _, _, X7, hS0, (by rw [e7]; exact (Nat.le_trans hk0 K1.1)), (fun h => by cases h <;> rfl), ?_, (by rw [e7]; exact Ah1), hZ, fun fs hr => ?_⟩
 · show Q_law n0 _ _
   exact ⟨rfl, N7⟩
 refine t_iloadN 1 X0.here hx hby at_0 rfl rfl ?_
 refine t_iconst 2 (r := 3) X0.here hx hby at_1 (by decide) rfl ?_
 refine t_iand 3 (r := 3) X0.here hx hby at_2 hln rfl ?_
 refine t_istore (pc' := 5) (L' := #[vi p0, vi p1, vi p2, vi p3, vi 3, .unset, .unset, .unset, .unset, .unset, .unset]) X0.here hx hby at_3 rfl rfl ?_
 refine t_iloadN 6 X0.here hx hby at_5 rfl rfl ?_
 refine X0.ldcInt hx hown (mvT hZ (w0 hw)) (g := (mkF m 6 #[vi p0, vi p1, vi p2, vi p3, vi 3, .unset, .unset, .unset, .unset, .unset, .unset] [(.int p1)])) rfl (hb hby at_6) _ ?_
 refine t_iand 9 (r := (own_ch p1)) X0.here hx hby at_8 (Eq.refl (own_ch p1)) rfl ?_
 refine t_i2c 10 (r := (own_ch p1)) X0.here hx hby at_9 (own_c2d (own_m16a p1) (own_m16b p1)) rfl ?_
 refine t_istore (pc' := 12) (L' := #[vi p0, vi p1, vi p2, vi p3, vi 3, vi ((own_ch p1)), .unset, .unset, .unset, .unset, .unset]) X0.here hx hby at_10 rfl rfl ?_
 refine t_iloadN 13 X0.here hx hby at_12 rfl rfl ?_
 refine t_iconst 14 (r := 2) X0.here hx hby at_13 (by decide) rfl ?_
 refine t_iushr 15 X0.here hx hby at_14 rfl rfl ?_
 refine t_iconst 16 (r := 1) X0.here hx hby at_15 (by decide) rfl ?_
 refine t_iand 17 (r := 0) X0.here hx hby at_16 hbit rfl ?_
 refine t_ifYes (pc := 17) 80 X0.here hx hby at_17 (by decide) (by decide) (by decide) ?_
 refine t_iloadN 81 X0.here hx hby at_80 rfl rfl ?_
 refine X0.ldcInt hx hown (mvT hZ (w0 hw)) (g := (mkF m 81 #[vi p0, vi p1, vi p2, vi p3, vi 3, vi ((own_ch p1)), .unset, .unset, .unset, .unset, .unset] [(.int p2)])) rfl (hb hby at_81) _ ?_
 refine t_iand 84 (r := (own_ch p2)) X0.here hx hby at_83 (Eq.refl (own_ch p2)) rfl ?_
 refine t_i2c 85 (r := (own_ch p2)) X0.here hx hby at_84 (own_c2d (own_m16a p2) (own_m16b p2)) rfl ?_
 refine t_istore (pc' := 87) (L' := #[vi p0, vi p1, vi p2, vi p3, vi 3, vi ((own_ch p1)), vi ((own_ch p2)), .unset, .unset, .unset, .unset]) X0.here hx hby at_85 rfl rfl ?_
 refine t_iloadN 88 X0.here hx hby at_87 rfl rfl ?_
 refine X0.ldcInt hx hown (mvT hZ (w0 hw)) (g := (mkF m 88 #[vi p0, vi p1, vi p2, vi p3, vi 3, vi ((own_ch p1)), vi ((own_ch p2)), .unset, .unset, .unset, .unset] [(.int p3)])) rfl (hb hby at_88) _ ?_
 refine t_iand 91 (r := (own_ch p3)) X0.here hx hby at_90 (Eq.refl (own_ch p3)) rfl ?_
 refine t_i2c 92 (r := (own_ch p3)) X0.here hx hby at_91 (own_c2d (own_m16a p3) (own_m16b p3)) rfl ?_
 refine t_istore (pc' := 94) (L' := #[vi p0, vi p1, vi p2, vi p3, vi 3, vi ((own_ch p1)), vi ((own_ch p2)), vi ((own_ch p3)), .unset, .unset, .unset]) X0.here hx hby at_92 rfl rfl ?_
 refine t_iload 96 X0.here hx hby at_94 rfl rfl ?_
 refine t_iload 98 X0.here hx hby at_96 rfl rfl ?_
 refine t_iload 100 X0.here hx hby at_98 rfl rfl ?_
 refine t_iload 102 X0.here hx hby at_100 rfl rfl ?_
 refine st1 _ ?_
 refine t_astore (pc' := 107) (L' := #[vi p0, vi p1, vi p2, vi p3, vi 3, vi ((own_ch p1)), vi ((own_ch p2)), vi ((own_ch p3)), vr b4_1, .unset, .unset]) X1.here hx hby at_105 rfl rfl rfl ?_
 refine t_aload 109 X1.here hx hby at_107 rfl rfl rfl ?_
 refine st4 _ ?_
 refine t_astore (pc' := 114) (L' := #[vi p0, vi p1, vi p2, vi p3, vi 3, vi ((own_ch p1)), vi ((own_ch p2)), vi ((own_ch p3)), vr b4_1, vr st_EMPTY, .unset]) X4.here hx hby at_112 rfl rfl rfl ?_
 refine t_iload 116 X4.here hx hby at_114 rfl rfl ?_
 refine t_iload 118 X4.here hx hby at_116 rfl rfl ?_
 refine st6 _ ?_
 refine t_astore (pc' := 123) (L' := #[vi p0, vi p1, vi p2, vi p3, vi 3, vi ((own_ch p1)), vi ((own_ch p2)), vi ((own_ch p3)), vr b4_1, vr st_EMPTY, .val .null]) X6.here hx hby at_121 rfl rfl rfl ?_
 refine t_aload 125 X6.here hx hby at_123 rfl rfl rfl ?_
 refine t_ifnonnullNo 128 X6.here hx hby at_125 rfl ?_
 refine t_aload 130 X6.here hx hby at_128 rfl rfl rfl ?_
 refine st7 _ ?_
 refine t_ifNo 136 X7.here hx hby at_133 (by decide) rfl ?_
 refine t_iconst 137 (r := 1) X7.here hx hby at_136 (by decide) rfl ?_
 refine t_goto (pc := 137) 141 X7.here hx hby at_137 (by decide) (by decide) ?_
 exact retN X7 hx (t := .boolean) hret (by simp) (hb hby at_141) hr
theorem d419 : decode b27_ 26 = .ok (.aload_n 2, 1) := by decide +kernel
theorem d420 : decode b27_ 27 = .ok (.iload_n 3, 1) := by decide +kernel
theorem d421 : decode b27_ 28 = .ok (.iload 6, 2) := by decide +kernel
theorem d422 : decode b27_ 30 = .ok (.i2b, 1) := by decide +kernel
theorem d423 : decode b27_ 31 = .ok (.bastore, 1) := by decide +kernel
theorem d424 : decode b27_ 32 = .ok (.iinc 1 1, 3) := by decide +kernel
theorem d425 : decode b27_ 35 = .ok (.iinc 3 1, 3) := by decide +kernel
theorem d426 : decode b27_ 38 = .ok (.iinc 5 1, 3) := by decide +kernel
theorem d427 : decode b27_ 41 = .ok (.goto (-38), 3) := by decide +kernel
def WS_r75_compress (Z : State) (o2 : Addr) : List (Addr × Nat) := [(o2, (0 : Int32).toNatClampNeg)]
def Q_r75_compress (Z : State) (o0 o2 : Addr) (i_1 i_2 : Int32) (k_o0 k_o2 : ClassId) (h0 : Heap) (n0 : Nat) (v : Option Value) (h : Heap) (L : List Loc) : Prop := v = some (.int 1) ∧ Fr n0 L ∧ KL h0 h (WS_r75_compress Z o2) ∧ Arv Z h o2 k_o2 .byte 2 [(.int (i_1.toInt8.toInt32)), z0] z0
theorem r75_compress (l : Launch) (Z : State) (a0 : Array Value) (hw : HW Z a0) (ws : List Jvm.Cond) (o0 o2 : Addr) (i_1 i_2 : Int32) (k_o0 k_o2 : ClassId) (h0 : Heap) (n0 : Nat) (Z0 : n0 ≤ h0.size) (V_o0 : Arv Z h0 o0 k_o0 .char 2 [(.int i_1), (.int i_2)] z0) (hp0 : ¬ ((255 : Int32) < i_1)) (V_o2 : Arv Z h0 o2 k_o2 .byte 2 [z0, z0] z0) (g_o2 : n0 ≤ o2) (ne_o0_o2 : o0 ≠ o2) (hp1 : (255 : Int32) < i_2) :
    MF l Z y26_compress b27_ 7 (some .int) ws ⟨0, 0, 0, 0⟩ #[(.ref o0), z0, (.ref o2), z0, (.int 2)] h0 (Q_r75_compress Z o0 o2 i_1 i_2 k_o0 k_o2 h0 n0) := by
 refine own_body (plainFor_of_name pn_StringUTF16906) (ef_15 o0 (0 : Int32) o2 (0 : Int32) (2 : Int32)) (by decide) (by decide) ?_
 intro p e s m below meth c s₁ hx hby hml hown hnm hret hZ hh e0 X0
 have N0 := Fr.nil n0
 obtain ⟨T3, h3, X3, e3, W3, V3, st3⟩ := own_astB X0 hx hZ e0 V_o2 (j := 0) (by decide) 0 rfl (Nat.le_of_ble_eq_true rfl) (g := (mkF m 31 #[vr o0, vi 0, vr o2, vi 0, vi 2, vi 0, vi i_1] [(.int (i_1.toInt8.toInt32)), z0, (.ref o2)])) rfl rfl (hb hby d423)
 rw [show (nar .byte (i_1.toInt8.toInt32)) = (i_1.toInt8.toInt32) from (own_narb _)] at V3
 have K3 := KL.ofW W3
 replace V3 : Arv Z h3 o2 k_o2 .byte 2 [(.int (i_1.toInt8.toInt32)), z0] z0 := V3
 have N3 := Fr.snoc X3 N0 g_o2
 have f4 := (kArv K3 V_o0 (naN (Ne.symm ne_o0_o2) na0))
 have C0 := (KL.refl h0 (WS_r75_compress Z o2)).trans K3 (naO (own_mi 0 rfl) na0)
 refine ⟨T3, _, some (.int 1), X3, (fun h => by cases h <;> rfl), ?_, fun fs hr => ?_⟩
 · show Q_r75_compress Z o0 o2 i_1 i_2 k_o0 k_o2 h0 n0 _ T3.heap _
   rw [e3]
   exact ⟨rfl, N3, C0, V3⟩
 refine t_iconst 1 (r := 0) X0.here hx hby d320 (by decide) rfl ?_
 refine t_istore (pc' := 3) (L' := #[vr o0, vi 0, vr o2, vi 0, vi 2, vi 0, .unset]) X0.here hx hby d321 rfl rfl ?_
 refine t_iload 5 X0.here hx hby d322 rfl rfl ?_
 refine t_iload 7 X0.here hx hby d323 rfl rfl ?_
 refine t_icmpNo 10 X0.here hx hby d324 (by decide) rfl ?_
 refine t_aloadN 11 X0.here hx hby d325 rfl rfl rfl ?_
 refine t_iloadN 12 X0.here hx hby d326 rfl rfl ?_
 refine own_aldC (pc' := 13) X0 hx hZ e0 V_o0 (j := 0) (v := (.int i_1)) (by decide) rfl (hb hby d327) rfl ?_
 refine t_istore (pc' := 15) (L' := #[vr o0, vi 0, vr o2, vi 0, vi 2, vi 0, vi i_1]) X0.here hx hby d328 rfl rfl ?_
 refine t_iload 17 X0.here hx hby d329 rfl rfl ?_
 refine t_sipush 20 (r := 255) X0.here hx hby d330 (by decide) rfl ?_
 refine t_icmpYes (pc := 20) 26 X0.here hx hby d331 (flt hp0).2.2.2 (by decide) (by decide) ?_
 refine t_aloadN 27 X0.here hx hby d419 rfl rfl rfl ?_
 refine t_iloadN 28 X0.here hx hby d420 rfl rfl ?_
 refine t_iload 30 X0.here hx hby d421 rfl rfl ?_
 refine t_i2b 31 X0.here hx hby d422 rfl rfl ?_
 refine st3 _ ?_
 refine t_iinc (pc' := 35) (L' := #[vr o0, vi 1, vr o2, vi 0, vi 2, vi 0, vi i_1]) X3.here hx hby d424 rfl (by first | rfl | decide) rfl ?_
 refine t_iinc (pc' := 38) (L' := #[vr o0, vi 1, vr o2, vi 1, vi 2, vi 0, vi i_1]) X3.here hx hby d425 rfl (by first | rfl | decide) rfl ?_
 refine t_iinc (pc' := 41) (L' := #[vr o0, vi 1, vr o2, vi 1, vi 2, vi 1, vi i_1]) X3.here hx hby d426 rfl (by first | rfl | decide) rfl ?_
 refine t_goto (pc := 41) 3 X3.here hx hby d427 (by decide) (by decide) ?_
 refine t_iload 5 X3.here hx hby d322 rfl rfl ?_
 refine t_iload 7 X3.here hx hby d323 rfl rfl ?_
 refine t_icmpNo 10 X3.here hx hby d324 (by decide) rfl ?_
 refine t_aloadN 11 X3.here hx hby d325 rfl rfl rfl ?_
 refine t_iloadN 12 X3.here hx hby d326 rfl rfl ?_
 refine own_aldC (pc' := 13) X3 hx hZ e3 f4 (j := 1) (v := (.int i_2)) (by decide) rfl (hb hby d327) rfl ?_
 refine t_istore (pc' := 15) (L' := #[vr o0, vi 1, vr o2, vi 1, vi 2, vi 1, vi i_2]) X3.here hx hby d328 rfl rfl ?_
 refine t_iload 17 X3.here hx hby d329 rfl rfl ?_
 refine t_sipush 20 (r := 255) X3.here hx hby d330 (by decide) rfl ?_
 refine t_icmpNo 23 X3.here hx hby d331 (tlt hp1).2.2.2 rfl ?_
 refine t_iload 25 X3.here hx hby d332 rfl rfl ?_
 exact retI X3 hx hret (hb hby d333) hr
def Q_r76_getChar (Z : State) (o0 : Addr) (i_2 i_3 i_4 i_5 : Int32) (k_o0 : ClassId) (h0 : Heap) (n0 : Nat) (v : Option Value) (h : Heap) (L : List Loc) : Prop := v = some (.int (own_chr i_4 i_5)) ∧ Fr n0 L ∧ h = h0
theorem r76_getChar (l : Launch) (Z : State) (a0 : Array Value) (hw : HW Z a0) (ws : List Jvm.Cond) (o0 : Addr) (i_2 i_3 i_4 i_5 : Int32) (k_o0 : ClassId) (h0 : Heap) (n0 : Nat) (Z0 : n0 ≤ h0.size) (S__assertionsDisabled : Sa5 Z (.int 1)) (O0 : Old Z n0 h0) (V_o0 : Arv Z h0 o0 k_o0 .byte 4 [(.int i_2), (.int i_3), (.int i_4), (.int i_5)] z0) (S_HI_BYTE_SHIFT : Sa6 Z z0) (S_LO_BYTE_SHIFT : Sa7 Z (.int 8)) :
    MF l Z y24_getChar b25_ 2 (some .char) ws ⟨0, 0, 0, 0⟩ #[(.ref o0), (.int 1)] h0 (Q_r76_getChar Z o0 i_2 i_3 i_4 i_5 k_o0 h0 n0) := by
 refine own_body (plainFor_of_name pn_StringUTF16906) (ef_4 o0 (1 : Int32)) (by decide) (by decide) ?_
 intro p e s m below meth c s₁ hx hby hml hown hnm hret hZ hh e0 X0
 have N0 := Fr.nil n0
 obtain ⟨T1, X1, e1, st1⟩ := getS2 X0 hx hZ hown (host := "") (Or.inl (w81 hw)) Via.refl e0 (Sta.ext O0.2 S__assertionsDisabled) (g := (mkF m 0 #[vr o0, vi 1] [])) rfl (hb hby d263)
 obtain ⟨T6, X6, e6, st6⟩ := getS2 X1 hx hZ hown (host := "") (Or.inl (w82 hw)) Via.refl e1 (Sta.ext O0.2 S_HI_BYTE_SHIFT) (g := (mkF m 42 #[vr o0, vi 3] [(.int (i_4 &&& (255 : Int32)))])) rfl (hb hby d275)
 obtain ⟨T7, X7, e7, st7⟩ := getS2 X6 hx hZ hown (host := "") (Or.inl (w83 hw)) Via.refl e6 (Sta.ext O0.2 S_LO_BYTE_SHIFT) (g := (mkF m 53 #[vr o0, vi 3] [(.int (i_5 &&& (255 : Int32))), (.int (i_4 &&& (255 : Int32)))])) rfl (hb hby d282)
 refine ⟨T7, _, some (.int (own_chr i_4 i_5)), X7, (fun h => by cases h <;> rfl), ?_, fun fs hr => ?_⟩
 · show Q_r76_getChar Z o0 i_2 i_3 i_4 i_5 k_o0 h0 n0 _ T7.heap _
   rw [e7]
   exact ⟨rfl, N0, rfl⟩
 rw [← (show (nar .char (own_chr i_4 i_5)) = (own_chr i_4 i_5) from (own_chrC _ _))] at hr
 refine st1 _ ?_
 refine t_ifYes (pc := 3) 28 X1.here hx hby d264 (by decide) (by decide) (by decide) ?_
 refine t_iloadN 29 X1.here hx hby d265 rfl rfl ?_
 refine t_iconst 30 (r := 1) X1.here hx hby d266 (by decide) rfl ?_
 refine t_ishl 31 (r := 2) X1.here hx hby d267 (by decide : ((1 : Int32) <<< ((1 : Int32) &&& 31)) = (2 : Int32)) rfl ?_
 refine t_istoreN (pc' := 32) (L' := #[vr o0, vi 2]) X1.here hx hby d268 rfl rfl ?_
 refine t_aloadN 33 X1.here hx hby d269 rfl rfl rfl ?_
 refine t_iloadN 34 X1.here hx hby d270 rfl rfl ?_
 refine t_iinc (pc' := 37) (L' := #[vr o0, vi 3]) X1.here hx hby d271 rfl (by first | rfl | decide) rfl ?_
 refine own_aldB (pc' := 38) X1 hx hZ e1 V_o0 (j := 2) (v := (.int i_4)) (by decide) rfl (hb hby d272) rfl ?_
 refine t_sipush 41 (r := 255) X1.here hx hby d273 (by decide) rfl ?_
 refine t_iand 42 X1.here hx hby d274 rfl rfl ?_
 refine st6 _ ?_
 refine t_ishl 46 (r := (i_4 &&& (255 : Int32))) X6.here hx hby d276 (own_shl0 _) rfl ?_
 refine t_aloadN 47 X6.here hx hby d277 rfl rfl rfl ?_
 refine t_iloadN 48 X6.here hx hby d278 rfl rfl ?_
 refine own_aldB (pc' := 49) X6 hx hZ e6 V_o0 (j := 3) (v := (.int i_5)) (by decide) rfl (hb hby d279) rfl ?_
 refine t_sipush 52 (r := 255) X6.here hx hby d280 (by decide) rfl ?_
 refine t_iand 53 X6.here hx hby d281 rfl rfl ?_
 refine st7 _ ?_
 refine t_ishl 57 X7.here hx hby d283 rfl rfl ?_
 refine t_ior 58 (r := (own_chr i_4 i_5)) X7.here hx hby d284 (Eq.refl (own_chr i_4 i_5)) rfl ?_
 refine t_i2c 59 (r := (own_chr i_4 i_5)) X7.here hx hby d285 (own_chrC _ _) rfl ?_
 exact retN X7 hx (t := .char) hret (by simp) (hb hby d286) hr
def Q_r74_compress (Z : State) (o0 : Addr) (i_2 i_3 : Int32) (k_o0 : ClassId) (h0 : Heap) (n0 : Nat) (v : Option Value) (h : Heap) (L : List Loc) : Prop := ∃ b2_1_8 : Addr, ∃ k2_1_8 : ClassId, v = some (.ref b2_1_8) ∧ Fr n0 L ∧ KL h0 h [] ∧ h0.size ≤ b2_1_8 ∧ Arv Z h b2_1_8 k2_1_8 .byte 4 [(.int (i_2.toInt8.toInt32)), (.int ((i_2 >>> ((8 : Int32) &&& 31)).toInt8.toInt32)), (.int (i_3.toInt8.toInt32)), (.int ((i_3 >>> ((8 : Int32) &&& 31)).toInt8.toInt32))] z0
theorem r74_compress (l : Launch) (Z : State) (a0 : Array Value) (hw : HW Z a0) (ws : List Jvm.Cond) (o0 : Addr) (i_2 i_3 : Int32) (k_o0 : ClassId) (h0 : Heap) (n0 : Nat) (Z0 : n0 ≤ h0.size) (V_o0 : Arv Z h0 o0 k_o0 .char 2 [(.int i_2), (.int i_3)] z0) (hp0 : ¬ ((255 : Int32) < i_2)) (hp1 : (255 : Int32) < i_3) (S__assertionsDisabled : Sa5 Z (.int 1)) (S_HI_BYTE_SHIFT : Sa6 Z z0) (S_LO_BYTE_SHIFT : Sa7 Z (.int 8)) (O0 : Old Z n0 h0) (hp2 : ¬ (i_3 < (0 : Int32))) (hp3 : ¬ ((65535 : Int32) < i_3)) :
    MF l Z y30_compress b26_ 6 (some (.array .byte)) ws ⟨3, 2, 6, 40⟩ #[(.ref o0), z0, (.int 2)] h0 (Q_r74_compress Z o0 i_2 i_3 k_o0 h0 n0) := by
 refine own_body (plainFor_of_name pn_StringUTF16906) (ef_17 o0 (0 : Int32) (2 : Int32)) (by decide) (by decide) ?_
 intro p e s m below meth c s₁ hx hby hml hown hnm hret hZ hh e0 X0
 have N0 := Fr.nil n0
 obtain ⟨T1, h1, k1, X1, e1, E1, A1, st1⟩ := newP (aty := .byte) X0 hx hZ (w20 hw) e0 (g := (mkF m 1 #[vr o0, vi 0, vi 2, .unset, .unset, .unset] [(.int 2)])) rfl (hb hby d312) rfl (by decide) (cap := 2) (by decide) (by decide) (by decide) (by decide)
 obtain ⟨b1, g1⟩ : ∃ z, z = h0.size := ⟨_, rfl⟩
 rw [← g1] at A1 st1
 have ge_b1 : h0.size ≤ b1 := Nat.le_of_eq g1.symm
 have K1 := KL.ofE E1
 have V1 : Arv Z h1 b1 k1 .byte 2 [z0, z0] z0 := (Arv.new A1 (by decide)).pad (pad_rep [] z0 2)
 have f5 := (kArv K1 V_o0 na0)
 have gg6 := Nat.le_trans Z0 ge_b1
 have lt_o0 : o0 < h0.size := Arv.lt V_o0
 have ne7 := lt_ne lt_o0 ge_b1
 obtain ⟨_, T4, L4, X4, hQ4, st4⟩ := own_static X1 hx hZ hown (w62 hw) (w63 hw) (w60 hw) (w64 hw) (by decide) (r75_compress l Z a0 hw [] o0 b1 i_2 i_3 k_o0 k1 h1 n0 (Nat.le_trans Z0 K1.1) f5 hp0 V1 gg6 ne7 hp1) e1 (W := 0) (by decide) (g := (mkF m 9 #[vr o0, vi 0, vi 2, vr b1, .unset, .unset] [(.int 2), z0, (.ref b1), z0, (.ref o0)])) rfl hml.symm (argsL := [(.ref o0), z0, (.ref b1), z0, (.int 2)]) (rest := []) (lenOf pd_22 rfl) rfl rfl (own_wr rfl rfl) (hb hby d319)
 obtain ⟨rfl, N4q, K4, Q4_0⟩ := hQ4
 have N4 := Fr.app N0 N4q
 have f9 := (kArv K4 f5 (naN (Ne.symm ne7) na0))
 have f10 := (kOld K4 (kOld K1 O0 na0) (naG gg6 na0))
 have sz_0_2 := (Nat.le_trans K1.1 K4.1)
 obtain ⟨_, T8, L8, X8, hQ8, st8⟩ := own_static X4 hx hZ hown (w68 hw) (w69 hw) (w60 hw) (w70 hw) (by decide) (r45_toBytes l Z a0 hw [] o0 i_2 i_3 k_o0 T4.heap n0 (Nat.le_trans Z0 sz_0_2) f9 S__assertionsDisabled S_HI_BYTE_SHIFT S_LO_BYTE_SHIFT f10) rfl (W := 0) (by decide) (g := (mkF m 23 #[vr o0, vi 0, vi 2, vr b1, vi 1, .unset] [(.int 2), z0, (.ref o0)])) rfl hml.symm (argsL := [(.ref o0), z0, (.int 2)]) (rest := []) (lenOf pd_25 rfl) rfl rfl (own_wr rfl rfl) (hb hby d341)
 obtain ⟨b2_1_8, k2_1_8, rfl, N8q, K8, Q8_0, Q8_1⟩ := hQ8
 have N8 := Fr.app N4 N8q
 have f13 := (kOld K8 f10 na0)
 have sz_0_3 := (Nat.le_trans sz_0_2 K8.1)
 obtain ⟨_, T12, L12, X12, hQ12, st12⟩ := own_static X8 hx hZ hown (w84 hw) (w85 hw) (w60 hw) (w86 hw) (by decide) (r76_getChar l Z a0 hw [] b2_1_8 (i_2.toInt8.toInt32) ((i_2 >>> ((8 : Int32) &&& 31)).toInt8.toInt32) (i_3.toInt8.toInt32) ((i_3 >>> ((8 : Int32) &&& 31)).toInt8.toInt32) k2_1_8 T8.heap n0 (Nat.le_trans Z0 sz_0_3) S__assertionsDisabled f13 Q8_1 S_HI_BYTE_SHIFT S_LO_BYTE_SHIFT) rfl (W := 0) (by decide) (g := (mkF m 32 #[vr o0, vi 0, vi 2, vr b1, vi 1, vr b2_1_8] [(.int 1), (.ref b2_1_8)])) rfl hml.symm (argsL := [(.ref b2_1_8), (.int 1)]) (rest := []) (lenOf pd_5 rfl) rfl rfl (own_wr rfl rfl) (hb hby d377)
 obtain ⟨rfl, N12q, e12⟩ := hQ12
 have N12 := Fr.app N8 N12q
 have C0 := (KL.refl h0 []).trans K1 na0
 have C1 := C0.trans K4 (naO (Or.inr ge_b1) na0)
 have C2 := C1.trans K8 na0
 refine ⟨T12, _, some (.ref b2_1_8), X12, (fun h => by cases h <;> rfl), ?_, fun fs hr => ?_⟩
 · show Q_r74_compress Z o0 i_2 i_3 k_o0 h0 n0 _ T12.heap _
   rw [e12]
   exact ⟨b2_1_8, k2_1_8, rfl, N12, C2, (Nat.le_trans sz_0_2 Q8_0), Q8_1⟩
 refine t_iloadN 1 X0.here hx hby d311 rfl rfl ?_
 refine st1 _ ?_
 refine t_astoreN (pc' := 4) (L' := #[vr o0, vi 0, vi 2, vr b1, .unset, .unset]) X1.here hx hby d313 rfl rfl rfl ?_
 refine t_aloadN 5 X1.here hx hby d314 rfl rfl rfl ?_
 refine t_iloadN 6 X1.here hx hby d315 rfl rfl ?_
 refine t_aloadN 7 X1.here hx hby d316 rfl rfl rfl ?_
 refine t_iconst 8 (r := 0) X1.here hx hby d317 (by decide) rfl ?_
 refine t_iloadN 9 X1.here hx hby d318 rfl rfl ?_
 refine st4 _ ?_
 refine t_istore (pc' := 14) (L' := #[vr o0, vi 0, vi 2, vr b1, vi 1, .unset]) X4.here hx hby d334 rfl rfl ?_
 refine t_iload 16 X4.here hx hby d335 rfl rfl ?_
 refine t_iloadN 17 X4.here hx hby d336 rfl rfl ?_
 refine t_icmpNo 20 X4.here hx hby d337 (by decide) rfl ?_
 refine t_aloadN 21 X4.here hx hby d338 rfl rfl rfl ?_
 refine t_iloadN 22 X4.here hx hby d339 rfl rfl ?_
 refine t_iloadN 23 X4.here hx hby d340 rfl rfl ?_
 refine st8 _ ?_
 refine t_astore (pc' := 28) (L' := #[vr o0, vi 0, vi 2, vr b1, vi 1, vr b2_1_8]) X8.here hx hby d374 rfl rfl rfl ?_
 refine t_aload 30 X8.here hx hby d375 rfl rfl rfl ?_
 refine t_iload 32 X8.here hx hby d376 rfl rfl ?_
 refine st12 _ ?_
 refine castTop (g' := (mkF m 35 #[vr o0, vi 0, vi 2, vr b1, vi 1, vr b2_1_8] [(.int i_3)])) (congrArg (fun z => mkF m 35 #[vr o0, vi 0, vi 2, vr b1, vi 1, vr b2_1_8] (Value.int z :: [])) (own_chrE hp2 hp3)) ?_
 refine t_sipush 38 (r := 255) X12.here hx hby d378 (by decide) rfl ?_
 refine t_icmpYes (pc := 38) 54 X12.here hx hby d379 (tlt hp1).2.2.1 (by decide) (by decide) ?_
 refine t_aload 56 X12.here hx hby d380 rfl rfl rfl ?_
 jvm_step X12.here [X12.here.top, hx, (hb hby d381), X12.method', hret, Value.isRef, FieldType.isReference]
 first | (intro acts; rw [hr _ acts rfl rfl rfl]) | rw [hr _ _ rfl rfl rfl]
 exact Steps.refl _
def WS_r73__init_ (Z : State) (o0 : Addr) : List (Addr × Nat) := [(o0, (sl1 Z)), (o0, (sl0 Z))]
def Q_r73__init_ (Z : State) (o0 o1 : Addr) (i_2 i_4 i_5 : Int32) (k_o1 : ClassId) (h0 : Heap) (n0 : Nat) (v : Option Value) (h : Heap) (L : List Loc) : Prop := ∃ b2_1_8_6 : Addr, ∃ k2_1_8_6 : ClassId, v = none ∧ Fr n0 L ∧ KL h0 h (WS_r73__init_ Z o0) ∧ h0.size ≤ b2_1_8_6 ∧ Fd1 Z h o0 (.int 1) ∧ Fd0 Z h o0 (.ref b2_1_8_6) ∧ Arv Z h b2_1_8_6 k2_1_8_6 .byte 4 [(.int (i_4.toInt8.toInt32)), (.int ((i_4 >>> ((8 : Int32) &&& 31)).toInt8.toInt32)), (.int (i_5.toInt8.toInt32)), (.int ((i_5 >>> ((8 : Int32) &&& 31)).toInt8.toInt32))] z0
theorem r73__init_ (l : Launch) (Z : State) (a0 : Array Value) (hw : HW Z a0) (ws : List Jvm.Cond) (o0 o1 : Addr) (i_2 i_4 i_5 : Int32) (k_o1 : ClassId) (h0 : Heap) (n0 : Nat) (Z0 : n0 ≤ h0.size) (sCS : SCS Z i_2) (O0 : Old Z n0 h0) (hp0 : ¬ (i_2 = (0 : Int32))) (V_o1 : Arv Z h0 o1 k_o1 .char 2 [(.int i_4), (.int i_5)] z0) (S__assertionsDisabled : Sa5 Z (.int 1)) (S_HI_BYTE_SHIFT : Sa6 Z z0) (S_LO_BYTE_SHIFT : Sa7 Z (.int 8)) (hp1 : ¬ ((255 : Int32) < i_4)) (hp2 : (255 : Int32) < i_5) (hp3 : ¬ (i_5 < (0 : Int32))) (hp4 : ¬ ((65535 : Int32) < i_5)) (F_o0_coder : Fd1 Z h0 o0 z0) (E_o0 : Ex0 Z h0 o0) (g_o0 : n0 ≤ o0) (F_o0_value : Fd0 Z h0 o0 .null) :
    MF l Z y11__init_ b13_ 6 none ws ⟨4, 2, 6, 57⟩ #[(.ref o0), (.ref o1), z0, (.int 2), .null] h0 (Q_r73__init_ Z o0 o1 i_2 i_4 i_5 k_o1 h0 n0) := by
 refine own_body (plainFor_of_name pn_String564) (ef_7 o0 o1 (0 : Int32) (2 : Int32)) (by decide) (by decide) ?_
 intro p e s m below meth c s₁ hx hby hml hown hnm hret hZ hh e0 X0
 have N0 := Fr.nil n0
 obtain ⟨T1, X1, e1, st1⟩ := initO X0 hx hZ hown (w16 hw) (w17 hw) (w18 hw) e0 (g := (mkF m 1 #[vr o0, vr o1, vi 0, vi 2, .val .null, .unset] [(.ref o0)])) rfl hml.symm rfl (hb hby d128) (by decide) (W := 0) (own_wr rfl rfl) (by decide)
 obtain ⟨T3, X3, e3, st3⟩ := getS2 X1 hx hZ hown (host := "") (Or.inl (w41 hw)) Via.refl e1 (Sta.ext O0.2 sCS) (g := (mkF m 27 #[vr o0, vr o1, vi 0, vi 2, .val .null, .unset] [])) rfl (hb hby d305)
 obtain ⟨_, T6, L6, X6, hQ6, st6⟩ := own_static X3 hx hZ hown (w58 hw) (w59 hw) (w60 hw) (w61 hw) (by decide) (r74_compress l Z a0 hw [] o1 i_4 i_5 k_o1 h0 n0 Z0 V_o1 hp1 hp2 S__assertionsDisabled S_HI_BYTE_SHIFT S_LO_BYTE_SHIFT O0 hp3 hp4) e3 (W := 0) (by decide) (g := (mkF m 36 #[vr o0, vr o1, vi 0, vi 2, .val .null, .unset] [(.int 2), z0, (.ref o1)])) rfl hml.symm (argsL := [(.ref o1), z0, (.int 2)]) (rest := []) (lenOf pd_25 rfl) rfl rfl (own_wr rfl rfl) (hb hby d310)
 obtain ⟨b2_1_8_6, k2_1_8_6, rfl, N6q, K6, Q6_0, Q6_1⟩ := hQ6
 have N6 := Fr.app N0 N6q
 obtain ⟨_, T8, L8, X8, hQ8, st8⟩ := own_static X6 hx hZ hown (w65 hw) (w66 hw) (w60 hw) (w67 hw) (by decide) (r51_coderFromArrayLen l Z a0 hw [] b2_1_8_6 (i_4.toInt8.toInt32) ((i_4 >>> ((8 : Int32) &&& 31)).toInt8.toInt32) (i_5.toInt8.toInt32) ((i_5 >>> ((8 : Int32) &&& 31)).toInt8.toInt32) k2_1_8_6 T6.heap n0 (Nat.le_trans Z0 K6.1) Q6_1) rfl (W := 1) (by decide) (g := (mkF m 45 #[vr o0, vr o1, vi 0, vi 2, .val .null, vr b2_1_8_6] [(.int 2), (.ref b2_1_8_6), (.ref o0)])) rfl hml.symm (argsL := [(.ref b2_1_8_6), (.int 2)]) (rest := [(.ref o0)]) (lenOf pd_26 rfl) rfl rfl (own_wr rfl rfl) (hb hby d386)
 obtain ⟨rfl, N8q, e8⟩ := hQ8
 have N8 := Fr.app N6 N8q
 have f9 := (kFld K6 F_o0_coder nw0)
 have f10 := (kExa K6 E_o0)
 obtain ⟨T11, h11, X11, e11, W11, st11⟩ := putF X8 hx hZ hown (host := "") (Or.inl (w26 hw)) Via.refl e8 f9 f10 (Or.inr ⟨(w22 hw), rfl, hnm⟩) (w6 hw) (ty := .byte) (by decide) (by decide) (by decide) (g := (mkF m 48 #[vr o0, vr o1, vi 0, vi 2, .val .null, vr b2_1_8_6] [(.int 1), (.ref o0)])) rfl rfl (hb hby d395)
 have K11 := KL.ofW W11
 have Fw11 : Fd1 Z h11 o0 (.int 1) := Fld.same W11 f9
 have N11 := Fr.snoc X11 N8 g_o0
 have f12 := (kFld K11 (kFld K6 F_o0_value nw0) (nwR (sn_1 hw) nw0))
 have f13 := (kExa K11 f10)
 obtain ⟨T14, h14, X14, e14, W14, st14⟩ := putF X11 hx hZ hown (host := "") (Or.inl (w25 hw)) Via.refl e11 f12 f13 (Or.inr ⟨(w21 hw), rfl, hnm⟩) (w6 hw) (ty := (.array .byte)) (by decide) rfl rfl (g := (mkF m 54 #[vr o0, vr o1, vi 0, vi 2, .val .null, vr b2_1_8_6] [(.ref b2_1_8_6), (.ref o0)])) rfl rfl (hb hby d398)
 have K14 := KL.ofW W14
 have Fw14 : Fd0 Z h14 o0 (.ref b2_1_8_6) := Fld.same W14 f12
 have N14 := Fr.snoc X14 N11 g_o0
 have C0 := (KL.refl h0 (WS_r73__init_ Z o0)).trans K6 na0
 have C1 := C0.trans K11 (naO (own_mi 0 rfl) na0)
 have C2 := C1.trans K14 (naO (own_mi 1 rfl) na0)
 have f15 := (kFld K14 Fw11 (nwR (sn_0 hw) nw0))
 have lt_o0 : o0 < h0.size := Fld.lt F_o0_coder
 have ne16 := lt_ne lt_o0 Q6_0
 have f17 := (kArv K14 (kArv K11 Q6_1 (naN ne16 na0)) (naN ne16 na0))
 refine ⟨T14, _, none, X14, (fun h => by cases h <;> rfl), ?_, fun fs hr => ?_⟩
 · show Q_r73__init_ Z o0 o1 i_2 i_4 i_5 k_o1 h0 n0 _ T14.heap _
   rw [e14]
   exact ⟨b2_1_8_6, k2_1_8_6, rfl, N14, C2, Q6_0, f15, Fw14, f17⟩
 refine t_aloadN 1 X0.here hx hby d127 rfl rfl rfl ?_
 refine st1 _ ?_
 refine t_iloadN 5 X1.here hx hby d129 rfl rfl ?_
 refine t_ifYes (pc := 5) 27 X1.here hx hby d130 (by decide) (by decide) (by decide) ?_
 refine st3 _ ?_
 refine t_ifNo 33 X3.here hx hby d306 ((if0 _ _).trans (feq hp0).1) rfl ?_
 refine t_aloadN 34 X3.here hx hby d307 rfl rfl rfl ?_
 refine t_iloadN 35 X3.here hx hby d308 rfl rfl ?_
 refine t_iloadN 36 X3.here hx hby d309 rfl rfl ?_
 refine st6 _ ?_
 refine t_astore (pc' := 41) (L' := #[vr o0, vr o1, vi 0, vi 2, .val .null, vr b2_1_8_6]) X6.here hx hby d382 rfl rfl rfl ?_
 refine t_aloadN 42 X6.here hx hby d383 rfl rfl rfl ?_
 refine t_aload 44 X6.here hx hby d384 rfl rfl rfl ?_
 refine t_iloadN 45 X6.here hx hby d385 rfl rfl ?_
 refine st8 _ ?_
 refine st11 _ ?_
 refine t_aloadN 52 X11.here hx hby d396 rfl rfl rfl ?_
 refine t_aload 54 X11.here hx hby d397 rfl rfl rfl ?_
 refine st14 _ ?_
 exact X14.returnOut hx hret (hb hby d399) hr
def WS_r72__init_ (Z : State) (o0 : Addr) : List (Addr × Nat) := [(o0, (sl1 Z)), (o0, (sl0 Z))]
def Q_r72__init_ (Z : State) (o0 o1 : Addr) (i_1 i_2 : Int32) (k_o1 : ClassId) (i_3 : Int32) (h0 : Heap) (n0 : Nat) (v : Option Value) (h : Heap) (L : List Loc) : Prop := ∃ b2_1_8_6_4 : Addr, ∃ k2_1_8_6_4 : ClassId, v = none ∧ Fr n0 L ∧ KL h0 h (WS_r72__init_ Z o0) ∧ h0.size ≤ b2_1_8_6_4 ∧ Fd1 Z h o0 (.int 1) ∧ Fd0 Z h o0 (.ref b2_1_8_6_4) ∧ Arv Z h b2_1_8_6_4 k2_1_8_6_4 .byte 4 [(.int (i_1.toInt8.toInt32)), (.int ((i_1 >>> ((8 : Int32) &&& 31)).toInt8.toInt32)), (.int (i_2.toInt8.toInt32)), (.int ((i_2 >>> ((8 : Int32) &&& 31)).toInt8.toInt32))] z0
theorem r72__init_ (l : Launch) (Z : State) (a0 : Array Value) (hw : HW Z a0) (ws : List Jvm.Cond) (o0 o1 : Addr) (i_1 i_2 : Int32) (k_o1 : ClassId) (i_3 : Int32) (h0 : Heap) (n0 : Nat) (Z0 : n0 ≤ h0.size) (V_o1 : Arv Z h0 o1 k_o1 .char 2 [(.int i_1), (.int i_2)] z0) (sCS : SCS Z i_3) (S__assertionsDisabled : Sa5 Z (.int 1)) (S_HI_BYTE_SHIFT : Sa6 Z z0) (S_LO_BYTE_SHIFT : Sa7 Z (.int 8)) (F_o0_coder : Fd1 Z h0 o0 z0) (E_o0 : Ex0 Z h0 o0) (F_o0_value : Fd0 Z h0 o0 .null) (O0 : Old Z n0 h0) (hp0 : ¬ (i_3 = (0 : Int32))) (hp1 : ¬ ((255 : Int32) < i_1)) (hp2 : (255 : Int32) < i_2) (hp3 : ¬ (i_2 < (0 : Int32))) (hp4 : ¬ ((65535 : Int32) < i_2)) (g_o0 : n0 ≤ o0) :
    MF l Z y12__init_ b12_ 2 none ws ⟨5, 2, 6, 74⟩ #[(.ref o0), (.ref o1)] h0 (Q_r72__init_ Z o0 o1 i_1 i_2 k_o1 i_3 h0 n0) := by
 refine own_body (plainFor_of_name pn_String564) (ef_5 o0 o1) (by decide) (by decide) ?_
 intro p e s m below meth c s₁ hx hby hml hown hnm hret hZ hh e0 X0
 have N0 := Fr.nil n0
 obtain ⟨_, T4, L4, X4, hQ4, st4⟩ := own_init X0 hx hZ rfl hown (w12 hw) (w13 hw) (w7 hw) (w15 hw) (by decide) (r73__init_ l Z a0 hw [] o0 o1 i_3 i_1 i_2 k_o1 h0 n0 Z0 sCS O0 hp0 V_o1 S__assertionsDisabled S_HI_BYTE_SHIFT S_LO_BYTE_SHIFT hp1 hp2 hp3 hp4 F_o0_coder E_o0 g_o0 F_o0_value) e0 (W := 0) (by decide) (g := (mkF m 6 #[vr o0, vr o1] [.null, (.int 2), z0, (.ref o1), (.ref o0)])) rfl hml.symm (argsL := [(.ref o1), z0, (.int 2), .null]) (rest := []) (lenOf pd_9 rfl) rfl rfl (own_wr rfl rfl) (hb hby d126)
 obtain ⟨b2_1_8_6_4, k2_1_8_6_4, rfl, N4q, K4, Q4_0, Q4_1, Q4_2, Q4_3⟩ := hQ4
 have N4 := Fr.app N0 N4q
 have C0 := (KL.refl h0 (WS_r72__init_ Z o0)).trans K4 (naO (own_mi 0 rfl) (naO (own_mi 1 rfl) na0))
 refine ⟨T4, _, none, X4, (fun h => by cases h <;> rfl), ?_, fun fs hr => ?_⟩
 · show Q_r72__init_ Z o0 o1 i_1 i_2 k_o1 i_3 h0 n0 _ T4.heap _
   exact ⟨b2_1_8_6_4, k2_1_8_6_4, rfl, N4, C0, Q4_0, Q4_1, Q4_2, Q4_3⟩
 refine t_aloadN 1 X0.here hx hby d120 rfl rfl rfl ?_
 refine t_aloadN 2 X0.here hx hby d121 rfl rfl rfl ?_
 refine t_iconst 3 (r := 0) X0.here hx hby d122 (by decide) rfl ?_
 refine t_aloadN 4 X0.here hx hby d123 rfl rfl rfl ?_
 refine own_arlen (pc' := 5) X0 hx hZ e0 V_o1 (hb hby d124) rfl ?_
 refine t_aconst_null 6 X0.here hx hby d125 rfl ?_
 refine st4 _ ?_
 exact X4.returnOut hx hret (hb hby d140) hr
def Q_r71_make (Z : State) (i_1 i_2 i_3 i_9 : Int32) (h0 : Heap) (n0 : Nat) (v : Option Value) (h : Heap) (L : List Loc) : Prop := ∃ b4 : Addr, ∃ b2_1_8_6_4_10 : Addr, ∃ k2_1_8_6_4_10 : ClassId, v = some (.ref b4) ∧ Fr n0 L ∧ KL h0 h [] ∧ h0.size ≤ b4 ∧ h0.size ≤ b2_1_8_6_4_10 ∧ b4 ≠ b2_1_8_6_4_10 ∧ Ex0 Z h b4 ∧ Fd0 Z h b4 (.ref b2_1_8_6_4_10) ∧ Fd1 Z h b4 (.int 1) ∧ Arv Z h b2_1_8_6_4_10 k2_1_8_6_4_10 .byte 4 [(.int (i_1.toInt8.toInt32)), (.int ((i_1 >>> ((8 : Int32) &&& 31)).toInt8.toInt32)), (.int (i_2.toInt8.toInt32)), (.int ((i_2 >>> ((8 : Int32) &&& 31)).toInt8.toInt32))] z0
theorem r71_make (l : Launch) (Z : State) (a0 : Array Value) (hw : HW Z a0) (ws : List Jvm.Cond) (i_1 i_2 i_3 i_9 : Int32) (h0 : Heap) (n0 : Nat) (Z0 : n0 ≤ h0.size) (hp0 : ¬ (i_1 < (0 : Int32))) (hp1 : ¬ ((65535 : Int32) < i_1)) (hp2 : ¬ (i_2 < (0 : Int32))) (hp3 : ¬ ((65535 : Int32) < i_2)) (sCS : SCS Z i_9) (S__assertionsDisabled : Sa5 Z (.int 1)) (S_HI_BYTE_SHIFT : Sa6 Z z0) (S_LO_BYTE_SHIFT : Sa7 Z (.int 8)) (O0 : Old Z n0 h0) (hp4 : ¬ (i_9 = (0 : Int32))) (hp5 : ¬ ((255 : Int32) < i_1)) (hp6 : (255 : Int32) < i_2) :
    MF l Z y13_make b11_ 4 (some (.object "java/lang/String")) ws ⟨6, 4, 12, 88⟩ #[(.int 2), (.int i_1), (.int i_2), (.int i_3)] h0 (Q_r71_make Z i_1 i_2 i_3 i_9 h0 n0) := by
 refine own_body (plainFor_of_name pn_PaymentFrequencyUnitOfPinLaw855) (ef_8 (2 : Int32) i_1 i_2 i_3) (by decide) (by decide) ?_
 intro p e s m below meth c s₁ hx hby hml hown hnm hret hZ hh e0 X0
 have N0 := Fr.nil n0
 obtain ⟨T4, h4, X4, e4, E4, A4, D4, -, st4⟩ := newO X0 hx hZ hown (w5 hw) (w6 hw) (w7 hw) e0 (g := (mkF m 30 #[vi 2, vi i_1, vi i_2, vi i_3] [])) rfl (hb hby d292) (by decide) (by decide)
 obtain ⟨b4, g4⟩ : ∃ z, z = h0.size := ⟨_, rfl⟩
 rw [← g4] at A4 D4 st4
 have ge_b4 : h0.size ≤ b4 := Nat.le_of_eq g4.symm
 have K4 := KL.ofE E4
 have F_b4_value : Fd0 Z h4 b4 .null := D4 (Or.inr (w21 hw)) (ty := (.array .byte)) (by decide)
 have F_b4_coder : Fd1 Z h4 b4 z0 := D4 (Or.inr (w22 hw)) (ty := .byte) (by decide)
 obtain ⟨T5, h5, k5, X5, e5, E5, A5, st5⟩ := newP (aty := .char) X4 hx hZ (w8 hw) e4 (g := (mkF m 35 #[vi 2, vi i_1, vi i_2, vi i_3] [(.int 2), (.ref b4), (.ref b4)])) rfl (hb hby d295) rfl (by decide) (cap := 2) (by decide) (by decide) (by decide) (by decide)
 obtain ⟨b5, g5⟩ : ∃ z, z = h4.size := ⟨_, rfl⟩
 rw [← g5] at A5 st5
 have ge_b5 : h4.size ≤ b5 := Nat.le_of_eq g5.symm
 have K5 := KL.ofE E5
 have V5 : Arv Z h5 b5 k5 .char 2 [z0, z0] z0 := (Arv.new A5 (by decide)).pad (pad_rep [] z0 2)
 obtain ⟨T6, h6, X6, e6, W6, V6, st6⟩ := own_astC X5 hx hZ e5 V5 (j := 0) (by decide) 0 rfl (Nat.le_of_ble_eq_true rfl) (g := (mkF m 40 #[vi 2, vi i_1, vi i_2, vi i_3] [(.int i_1), z0, (.ref b5), (.ref b5), (.ref b4), (.ref b4)])) rfl rfl (hb hby d299)
 rw [show (nar .char i_1) = i_1 from (own_c2d hp0 hp1)] at V6
 have gg7 := Nat.le_trans Z0 (Nat.le_trans K4.1 ge_b5)
 have K6 := KL.ofW W6
 replace V6 : Arv Z h6 b5 k5 .char 2 [(.int i_1), z0] z0 := V6
 have N6 := Fr.snoc X6 N0 gg7
 obtain ⟨T8, h8, X8, e8, W8, V8, st8⟩ := own_astC X6 hx hZ e6 V6 (j := 1) (by decide) 1 rfl (Nat.le_of_ble_eq_true rfl) (g := (mkF m 44 #[vi 2, vi i_1, vi i_2, vi i_3] [(.int i_2), (.int 1), (.ref b5), (.ref b5), (.ref b4), (.ref b4)])) rfl rfl (hb hby d303)
 rw [show (nar .char i_2) = i_2 from (own_c2d hp2 hp3)] at V8
 have K8 := KL.ofW W8
 replace V8 : Arv Z h8 b5 k5 .char 2 [(.int i_1), (.int i_2)] z0 := V8
 have N8 := Fr.snoc X8 N6 gg7
 have lt_b4 : b4 < h4.size := Exa.lt A4
 have ne11 := lt_ne lt_b4 ge_b5
 have f12 := (kFld K8 (kFld K6 (kFld K5 F_b4_coder nw0) (nwL ne11 nw0)) (nwL ne11 nw0))
 have f13 := (kExa K8 (kExa K6 (kExa K5 A4)))
 have f14 := (kFld K8 (kFld K6 (kFld K5 F_b4_value nw0) (nwL ne11 nw0)) (nwL ne11 nw0))
 have f15 := (kOld K8 (kOld K6 (kOld K5 (kOld K4 O0 na0) na0) (naG gg7 na0)) (naG gg7 na0))
 have gg16 := Nat.le_trans Z0 ge_b4
 have sz_0_2 := (Nat.le_trans K4.1 K5.1)
 have sz_0_3 := (Nat.le_trans sz_0_2 K6.1)
 have sz_0_4 := (Nat.le_trans sz_0_3 K8.1)
 obtain ⟨_, T10, L10, X10, hQ10, st10⟩ := own_init X8 hx hZ rfl hown (w9 hw) (w10 hw) (w7 hw) (w11 hw) (by decide) (r72__init_ l Z a0 hw [] b4 b5 i_1 i_2 k5 i_9 h8 n0 (Nat.le_trans Z0 sz_0_4) V8 sCS S__assertionsDisabled S_HI_BYTE_SHIFT S_LO_BYTE_SHIFT f12 f13 f14 f15 hp4 hp5 hp6 hp2 hp3 gg16) e8 (W := 1) (by decide) (g := (mkF m 45 #[vi 2, vi i_1, vi i_2, vi i_3] [(.ref b5), (.ref b4), (.ref b4)])) rfl hml.symm (argsL := [(.ref b5)]) (rest := [(.ref b4)]) (lenOf pd_10 rfl) rfl rfl (own_wr rfl rfl) (hb hby d304)
 obtain ⟨b2_1_8_6_4_10, k2_1_8_6_4_10, rfl, N10q, K10, Q10_0, Q10_1, Q10_2, Q10_3⟩ := hQ10
 have N10 := Fr.app N8 N10q
 have C0 := (KL.refl h0 []).trans K4 na0
 have C1 := C0.trans K5 na0
 have C2 := C1.trans K6 (naO (Or.inr (Nat.le_trans K4.1 ge_b5)) na0)
 have C3 := C2.trans K8 (naO (Or.inr (Nat.le_trans K4.1 ge_b5)) na0)
 have C4 := C3.trans K10 (naO (Or.inr ge_b4) (naO (Or.inr ge_b4) na0))
 have sz_1_3 := (Nat.le_trans K5.1 K6.1)
 have sz_1_4 := (Nat.le_trans sz_1_3 K8.1)
 have ne18 := lt_ne (Nat.lt_of_lt_of_le lt_b4 sz_1_4) Q10_0
 have f19 := (kExa K10 f13)
 refine ⟨T10, _, some (.ref b4), X10, (fun h => by cases h <;> rfl), ?_, fun fs hr => ?_⟩
 · show Q_r71_make Z i_1 i_2 i_3 i_9 h0 n0 _ T10.heap _
   exact ⟨b4, b2_1_8_6_4_10, k2_1_8_6_4_10, rfl, N10, C4, ge_b4, (Nat.le_trans sz_0_4 Q10_0), ne18, f19, Q10_2, Q10_1, Q10_3⟩
 refine t_iloadN 1 X0.here hx hby d113 rfl rfl ?_
 refine t_ifYes (pc := 1) 15 X0.here hx hby d114 (by decide) (by decide) (by decide) ?_
 refine t_iloadN 16 X0.here hx hby d151 rfl rfl ?_
 refine t_iconst 17 (r := 1) X0.here hx hby d152 (by decide) rfl ?_
 refine t_icmpYes (pc := 17) 25 X0.here hx hby d153 (by decide) (by decide) (by decide) ?_
 refine t_iloadN 26 X0.here hx hby d289 rfl rfl ?_
 refine t_iconst 27 (r := 2) X0.here hx hby d290 (by decide) rfl ?_
 refine t_icmpNo 30 X0.here hx hby d291 (by decide) rfl ?_
 refine st4 _ ?_
 refine t_dup 34 X4.here hx hby d293 rfl rfl ?_
 refine t_iconst 35 (r := 2) X4.here hx hby d294 (by decide) rfl ?_
 refine st5 _ ?_
 refine t_dup 38 X5.here hx hby d296 rfl rfl ?_
 refine t_iconst 39 (r := 0) X5.here hx hby d297 (by decide) rfl ?_
 refine t_iloadN 40 X5.here hx hby d298 rfl rfl ?_
 refine st6 _ ?_
 refine t_dup 42 X6.here hx hby d300 rfl rfl ?_
 refine t_iconst 43 (r := 1) X6.here hx hby d301 (by decide) rfl ?_
 refine t_iloadN 44 X6.here hx hby d302 rfl rfl ?_
 refine st8 _ ?_
 refine st10 _ ?_
 jvm_step X10.here [X10.here.top, hx, (hb hby d400), X10.method', hret, Value.isRef, FieldType.isReference]
 first | (intro acts; rw [hr _ acts rfl rfl rfl]) | rw [hr _ _ rfl rfl rfl]
 exact Steps.refl _
theorem law_a2_b (l : Launch) (Z : State) (a0 : Array Value) (hw : HW Z a0) (ws : List Jvm.Cond) (p0 p1 p2 p3 cs : Int32) (fm : Value) (st_EMPTY st_DAYS st_MONTHS st_YEARS : Addr) (h0 : Heap) (n0 : Nat) (Z0 : n0 ≤ h0.size) (ha : ¬ ((255 : Int32) < (own_ch p1))) (hbb : (255 : Int32) < (own_ch p2)) (hcs : ¬ (cs = (0 : Int32))) (hln : (p0 &&& (3 : Int32)) = (2 : Int32)) (hbit : (((p0.toUInt32 >>> ((2 : Int32) &&& 31).toUInt32).toInt32) &&& (1 : Int32)) = (0 : Int32)) (sCS : SCS Z cs) (S__assertionsDisabled : Sa5 Z (.int 1)) (S_HI_BYTE_SHIFT : Sa6 Z z0) (S_LO_BYTE_SHIFT : Sa7 Z (.int 8)) (O0 : Old Z n0 h0) (S_EMPTY : Sa4 Z (.ref st_EMPTY)) (E_st_EMPTY : Ex1 Z h0 st_EMPTY) (F_st_EMPTY_value : Fd2 Z h0 st_EMPTY .null) :
    LawM l Z ws p0 p1 p2 p3 h0 n0 := by
 refine own_bodyH (k := 4) (n := 12) (y := x) (Q := fun v _ L => Q_law n0 v L) (own_EW hw) (plainFor_of_name pn_PaymentFrequencyUnitOfPinLaw855) (ef_law p0 p1 p2 p3) (by decide) (by decide) ?_
 intro p e s m below meth c s₁ hx hby hml hown hnm hret hZ e0 hS0 hk0 X0 hC0 hSF0
 have N0 := Fr.nil n0
 obtain ⟨_, T1, L1, X1, hQ1, st1⟩ := own_static X0 hx hZ hown (w1 hw) (w2 hw) (w3 hw) (w4 hw) (by decide) (r71_make l Z a0 hw [] (own_ch p1) (own_ch p2) (own_ch p3) cs h0 n0 Z0 (own_m16a p1) (own_m16b p1) (own_m16a p2) (own_m16b p2) sCS S__assertionsDisabled S_HI_BYTE_SHIFT S_LO_BYTE_SHIFT O0 hcs ha hbb) e0 (W := 0) (by decide) (g := (mkF m 102 #[vi p0, vi p1, vi p2, vi p3, vi 2, vi ((own_ch p1)), vi ((own_ch p2)), vi ((own_ch p3)), .unset, .unset, .unset] [(.int (own_ch p3)), (.int (own_ch p2)), (.int (own_ch p1)), (.int 2)])) rfl hml.symm (argsL := [(.int 2), (.int (own_ch p1)), (.int (own_ch p2)), (.int (own_ch p3))]) (rest := []) (lenOf pd_11 rfl) rfl rfl (own_wr rfl rfl) (hb hby at_102)
 obtain ⟨b4_1, b2_1_8_6_4_10_1, k2_1_8_6_4_10_1, rfl, N1q, K1, Q1_0, Q1_1, Q1_2, Q1_3, Q1_4, Q1_5, Q1_6⟩ := hQ1
 have N1 := Fr.app N0 N1q
 have Ck0 := own_chK K1 na0 (CHr.refl hC0).1
 have Ah1 := (CHr.refl hC0).trans Ck0.1
 have f5 := (kOld K1 O0 na0)
 obtain ⟨_, T4, L4, X4, hQ4, st4⟩ := own_static X1 hx hZ hown (w27 hw) (w28 hw) (w29 hw) (w30 hw) (by decide) (r52_unitOf l Z a0 hw [] b4_1 b2_1_8_6_4_10_1 ((own_ch p1).toInt8.toInt32) (((own_ch p1) >>> ((8 : Int32) &&& 31)).toInt8.toInt32) ((own_ch p2).toInt8.toInt32) (((own_ch p2) >>> ((8 : Int32) &&& 31)).toInt8.toInt32) k2_1_8_6_4_10_1 cs st_EMPTY T1.heap n0 (Nat.le_trans Z0 K1.1) Q1_3 Q1_4 Q1_6 sCS Q1_5 f5 hcs S_EMPTY) rfl (W := 0) (by decide) (g := (mkF m 109 #[vi p0, vi p1, vi p2, vi p3, vi 2, vi ((own_ch p1)), vi ((own_ch p2)), vi ((own_ch p3)), vr b4_1, .unset, .unset] [(.ref b4_1)])) rfl hml.symm (argsL := [(.ref b4_1)]) (rest := []) (lenOf pd_12 rfl) rfl rfl (own_wr rfl rfl) (hb hby at_109)
 obtain ⟨rfl, N4q, e4⟩ := hQ4
 have N4 := Fr.app N1 N4q
 obtain ⟨_, T6, L6, X6, hQ6, st6⟩ := own_static X4 hx hZ hown (w47 hw) (w48 hw) (w3 hw) (w49 hw) (by decide) (r54_expected l Z a0 hw [] (own_ch p1) T1.heap n0 (Nat.le_trans Z0 K1.1)) e4 (W := 0) (by decide) (g := (mkF m 118 #[vi p0, vi p1, vi p2, vi p3, vi 2, vi ((own_ch p1)), vi ((own_ch p2)), vi ((own_ch p3)), vr b4_1, vr st_EMPTY, .unset] [(.int (own_ch p1)), (.int 2)])) rfl hml.symm (argsL := [(.int 2), (.int (own_ch p1))]) (rest := []) (lenOf pd_13 rfl) rfl rfl (own_wr rfl rfl) (hb hby at_118)
 obtain ⟨rfl, N6q, e6⟩ := hQ6
 have N6 := Fr.app N4 N6q
 have f8 := (kFld K1 F_st_EMPTY_value nw0)
 have f9 := (kExa K1 E_st_EMPTY)
 obtain ⟨_, T7, L7, X7, hQ7, st7⟩ := own_virtual X6 hx hZ hown (w50 hw) (w51 hw) (nfS hZ (w53 hw)) (w53 hw) (w52 hw) (w44 hw) (w54 hw) (by decide) (r15_isPresent l Z a0 hw [] st_EMPTY T1.heap n0 (Nat.le_trans Z0 K1.1) f8) e6 f9 (W := 0) (by decide) (g := (mkF m 130 #[vi p0, vi p1, vi p2, vi p3, vi 2, vi ((own_ch p1)), vi ((own_ch p2)), vi ((own_ch p3)), vr b4_1, vr st_EMPTY, .val .null] [(.ref st_EMPTY)])) rfl hml.symm (argsL := []) (rest := []) (lenOf pd_3 rfl) rfl rfl (own_wr rfl rfl) (hb hby at_130)
 obtain ⟨rfl, N7q, e7⟩ := hQ7
 have N7 := Fr.app N6 N7q
 refine ⟨T7, _, some (.int 1), _, _, X7, hS0, (by rw [e7]; exact (Nat.le_trans hk0 K1.1)), (fun h => by cases h <;> rfl), ?_, (by rw [e7]; exact Ah1), hZ, fun fs hr => ?_⟩
 · show Q_law n0 _ _
   exact ⟨rfl, N7⟩
 refine t_iloadN 1 X0.here hx hby at_0 rfl rfl ?_
 refine t_iconst 2 (r := 3) X0.here hx hby at_1 (by decide) rfl ?_
 refine t_iand 3 (r := 2) X0.here hx hby at_2 hln rfl ?_
 refine t_istore (pc' := 5) (L' := #[vi p0, vi p1, vi p2, vi p3, vi 2, .unset, .unset, .unset, .unset, .unset, .unset]) X0.here hx hby at_3 rfl rfl ?_
 refine t_iloadN 6 X0.here hx hby at_5 rfl rfl ?_
 refine X0.ldcInt hx hown (mvT hZ (w0 hw)) (g := (mkF m 6 #[vi p0, vi p1, vi p2, vi p3, vi 2, .unset, .unset, .unset, .unset, .unset, .unset] [(.int p1)])) rfl (hb hby at_6) _ ?_
 refine t_iand 9 (r := (own_ch p1)) X0.here hx hby at_8 (Eq.refl (own_ch p1)) rfl ?_
 refine t_i2c 10 (r := (own_ch p1)) X0.here hx hby at_9 (own_c2d (own_m16a p1) (own_m16b p1)) rfl ?_
 refine t_istore (pc' := 12) (L' := #[vi p0, vi p1, vi p2, vi p3, vi 2, vi ((own_ch p1)), .unset, .unset, .unset, .unset, .unset]) X0.here hx hby at_10 rfl rfl ?_
 refine t_iloadN 13 X0.here hx hby at_12 rfl rfl ?_
 refine t_iconst 14 (r := 2) X0.here hx hby at_13 (by decide) rfl ?_
 refine t_iushr 15 X0.here hx hby at_14 rfl rfl ?_
 refine t_iconst 16 (r := 1) X0.here hx hby at_15 (by decide) rfl ?_
 refine t_iand 17 (r := 0) X0.here hx hby at_16 hbit rfl ?_
 refine t_ifYes (pc := 17) 80 X0.here hx hby at_17 (by decide) (by decide) (by decide) ?_
 refine t_iloadN 81 X0.here hx hby at_80 rfl rfl ?_
 refine X0.ldcInt hx hown (mvT hZ (w0 hw)) (g := (mkF m 81 #[vi p0, vi p1, vi p2, vi p3, vi 2, vi ((own_ch p1)), .unset, .unset, .unset, .unset, .unset] [(.int p2)])) rfl (hb hby at_81) _ ?_
 refine t_iand 84 (r := (own_ch p2)) X0.here hx hby at_83 (Eq.refl (own_ch p2)) rfl ?_
 refine t_i2c 85 (r := (own_ch p2)) X0.here hx hby at_84 (own_c2d (own_m16a p2) (own_m16b p2)) rfl ?_
 refine t_istore (pc' := 87) (L' := #[vi p0, vi p1, vi p2, vi p3, vi 2, vi ((own_ch p1)), vi ((own_ch p2)), .unset, .unset, .unset, .unset]) X0.here hx hby at_85 rfl rfl ?_
 refine t_iloadN 88 X0.here hx hby at_87 rfl rfl ?_
 refine X0.ldcInt hx hown (mvT hZ (w0 hw)) (g := (mkF m 88 #[vi p0, vi p1, vi p2, vi p3, vi 2, vi ((own_ch p1)), vi ((own_ch p2)), .unset, .unset, .unset, .unset] [(.int p3)])) rfl (hb hby at_88) _ ?_
 refine t_iand 91 (r := (own_ch p3)) X0.here hx hby at_90 (Eq.refl (own_ch p3)) rfl ?_
 refine t_i2c 92 (r := (own_ch p3)) X0.here hx hby at_91 (own_c2d (own_m16a p3) (own_m16b p3)) rfl ?_
 refine t_istore (pc' := 94) (L' := #[vi p0, vi p1, vi p2, vi p3, vi 2, vi ((own_ch p1)), vi ((own_ch p2)), vi ((own_ch p3)), .unset, .unset, .unset]) X0.here hx hby at_92 rfl rfl ?_
 refine t_iload 96 X0.here hx hby at_94 rfl rfl ?_
 refine t_iload 98 X0.here hx hby at_96 rfl rfl ?_
 refine t_iload 100 X0.here hx hby at_98 rfl rfl ?_
 refine t_iload 102 X0.here hx hby at_100 rfl rfl ?_
 refine st1 _ ?_
 refine t_astore (pc' := 107) (L' := #[vi p0, vi p1, vi p2, vi p3, vi 2, vi ((own_ch p1)), vi ((own_ch p2)), vi ((own_ch p3)), vr b4_1, .unset, .unset]) X1.here hx hby at_105 rfl rfl rfl ?_
 refine t_aload 109 X1.here hx hby at_107 rfl rfl rfl ?_
 refine st4 _ ?_
 refine t_astore (pc' := 114) (L' := #[vi p0, vi p1, vi p2, vi p3, vi 2, vi ((own_ch p1)), vi ((own_ch p2)), vi ((own_ch p3)), vr b4_1, vr st_EMPTY, .unset]) X4.here hx hby at_112 rfl rfl rfl ?_
 refine t_iload 116 X4.here hx hby at_114 rfl rfl ?_
 refine t_iload 118 X4.here hx hby at_116 rfl rfl ?_
 refine st6 _ ?_
 refine t_astore (pc' := 123) (L' := #[vi p0, vi p1, vi p2, vi p3, vi 2, vi ((own_ch p1)), vi ((own_ch p2)), vi ((own_ch p3)), vr b4_1, vr st_EMPTY, .val .null]) X6.here hx hby at_121 rfl rfl rfl ?_
 refine t_aload 125 X6.here hx hby at_123 rfl rfl rfl ?_
 refine t_ifnonnullNo 128 X6.here hx hby at_125 rfl ?_
 refine t_aload 130 X6.here hx hby at_128 rfl rfl rfl ?_
 refine st7 _ ?_
 refine t_ifNo 136 X7.here hx hby at_133 (by decide) rfl ?_
 refine t_iconst 137 (r := 1) X7.here hx hby at_136 (by decide) rfl ?_
 refine t_goto (pc := 137) 141 X7.here hx hby at_137 (by decide) (by decide) ?_
 exact retN X7 hx (t := .boolean) hret (by simp) (hb hby at_141) hr
theorem d428 : decode b27_ 44 = .ok (.iload 4, 2) := by decide +kernel
theorem d429 : decode b27_ 46 = .ok (.ireturn, 1) := by decide +kernel
def WS_r81_compress (Z : State) (o2 : Addr) : List (Addr × Nat) := [(o2, (0 : Int32).toNatClampNeg), (o2, (1 : Int32).toNatClampNeg)]
def Q_r81_compress (Z : State) (o0 o2 : Addr) (i_1 i_2 : Int32) (k_o0 k_o2 : ClassId) (h0 : Heap) (n0 : Nat) (v : Option Value) (h : Heap) (L : List Loc) : Prop := v = some (.int 2) ∧ Fr n0 L ∧ KL h0 h (WS_r81_compress Z o2) ∧ Arv Z h o2 k_o2 .byte 2 [(.int (i_1.toInt8.toInt32)), (.int (i_2.toInt8.toInt32))] z0
theorem r81_compress (l : Launch) (Z : State) (a0 : Array Value) (hw : HW Z a0) (ws : List Jvm.Cond) (o0 o2 : Addr) (i_1 i_2 : Int32) (k_o0 k_o2 : ClassId) (h0 : Heap) (n0 : Nat) (Z0 : n0 ≤ h0.size) (V_o0 : Arv Z h0 o0 k_o0 .char 2 [(.int i_1), (.int i_2)] z0) (hp0 : ¬ ((255 : Int32) < i_1)) (V_o2 : Arv Z h0 o2 k_o2 .byte 2 [z0, z0] z0) (g_o2 : n0 ≤ o2) (ne_o0_o2 : o0 ≠ o2) (hp1 : ¬ ((255 : Int32) < i_2)) :
    MF l Z y26_compress b27_ 7 (some .int) ws ⟨0, 0, 0, 0⟩ #[(.ref o0), z0, (.ref o2), z0, (.int 2)] h0 (Q_r81_compress Z o0 o2 i_1 i_2 k_o0 k_o2 h0 n0) := by
 refine own_body (plainFor_of_name pn_StringUTF16906) (ef_15 o0 (0 : Int32) o2 (0 : Int32) (2 : Int32)) (by decide) (by decide) ?_
 intro p e s m below meth c s₁ hx hby hml hown hnm hret hZ hh e0 X0
 have N0 := Fr.nil n0
 obtain ⟨T3, h3, X3, e3, W3, V3, st3⟩ := own_astB X0 hx hZ e0 V_o2 (j := 0) (by decide) 0 rfl (Nat.le_of_ble_eq_true rfl) (g := (mkF m 31 #[vr o0, vi 0, vr o2, vi 0, vi 2, vi 0, vi i_1] [(.int (i_1.toInt8.toInt32)), z0, (.ref o2)])) rfl rfl (hb hby d423)
 rw [show (nar .byte (i_1.toInt8.toInt32)) = (i_1.toInt8.toInt32) from (own_narb _)] at V3
 have K3 := KL.ofW W3
 replace V3 : Arv Z h3 o2 k_o2 .byte 2 [(.int (i_1.toInt8.toInt32)), z0] z0 := V3
 have N3 := Fr.snoc X3 N0 g_o2
 have f4 := (kArv K3 V_o0 (naN (Ne.symm ne_o0_o2) na0))
 obtain ⟨T5, h5, X5, e5, W5, V5, st5⟩ := own_astB X3 hx hZ e3 V3 (j := 1) (by decide) 1 rfl (Nat.le_of_ble_eq_true rfl) (g := (mkF m 31 #[vr o0, vi 1, vr o2, vi 1, vi 2, vi 1, vi i_2] [(.int (i_2.toInt8.toInt32)), (.int 1), (.ref o2)])) rfl rfl (hb hby d423)
 rw [show (nar .byte (i_2.toInt8.toInt32)) = (i_2.toInt8.toInt32) from (own_narb _)] at V5
 have K5 := KL.ofW W5
 replace V5 : Arv Z h5 o2 k_o2 .byte 2 [(.int (i_1.toInt8.toInt32)), (.int (i_2.toInt8.toInt32))] z0 := V5
 have N5 := Fr.snoc X5 N3 g_o2
 have C0 := (KL.refl h0 (WS_r81_compress Z o2)).trans K3 (naO (own_mi 0 rfl) na0)
 have C1 := C0.trans K5 (naO (own_mi 1 rfl) na0)
 refine ⟨T5, _, some (.int 2), X5, (fun h => by cases h <;> rfl), ?_, fun fs hr => ?_⟩
 · show Q_r81_compress Z o0 o2 i_1 i_2 k_o0 k_o2 h0 n0 _ T5.heap _
   rw [e5]
   exact ⟨rfl, N5, C1, V5⟩
 refine t_iconst 1 (r := 0) X0.here hx hby d320 (by decide) rfl ?_
 refine t_istore (pc' := 3) (L' := #[vr o0, vi 0, vr o2, vi 0, vi 2, vi 0, .unset]) X0.here hx hby d321 rfl rfl ?_
 refine t_iload 5 X0.here hx hby d322 rfl rfl ?_
 refine t_iload 7 X0.here hx hby d323 rfl rfl ?_
 refine t_icmpNo 10 X0.here hx hby d324 (by decide) rfl ?_
 refine t_aloadN 11 X0.here hx hby d325 rfl rfl rfl ?_
 refine t_iloadN 12 X0.here hx hby d326 rfl rfl ?_
 refine own_aldC (pc' := 13) X0 hx hZ e0 V_o0 (j := 0) (v := (.int i_1)) (by decide) rfl (hb hby d327) rfl ?_
 refine t_istore (pc' := 15) (L' := #[vr o0, vi 0, vr o2, vi 0, vi 2, vi 0, vi i_1]) X0.here hx hby d328 rfl rfl ?_
 refine t_iload 17 X0.here hx hby d329 rfl rfl ?_
 refine t_sipush 20 (r := 255) X0.here hx hby d330 (by decide) rfl ?_
 refine t_icmpYes (pc := 20) 26 X0.here hx hby d331 (flt hp0).2.2.2 (by decide) (by decide) ?_
 refine t_aloadN 27 X0.here hx hby d419 rfl rfl rfl ?_
 refine t_iloadN 28 X0.here hx hby d420 rfl rfl ?_
 refine t_iload 30 X0.here hx hby d421 rfl rfl ?_
 refine t_i2b 31 X0.here hx hby d422 rfl rfl ?_
 refine st3 _ ?_
 refine t_iinc (pc' := 35) (L' := #[vr o0, vi 1, vr o2, vi 0, vi 2, vi 0, vi i_1]) X3.here hx hby d424 rfl (by first | rfl | decide) rfl ?_
 refine t_iinc (pc' := 38) (L' := #[vr o0, vi 1, vr o2, vi 1, vi 2, vi 0, vi i_1]) X3.here hx hby d425 rfl (by first | rfl | decide) rfl ?_
 refine t_iinc (pc' := 41) (L' := #[vr o0, vi 1, vr o2, vi 1, vi 2, vi 1, vi i_1]) X3.here hx hby d426 rfl (by first | rfl | decide) rfl ?_
 refine t_goto (pc := 41) 3 X3.here hx hby d427 (by decide) (by decide) ?_
 refine t_iload 5 X3.here hx hby d322 rfl rfl ?_
 refine t_iload 7 X3.here hx hby d323 rfl rfl ?_
 refine t_icmpNo 10 X3.here hx hby d324 (by decide) rfl ?_
 refine t_aloadN 11 X3.here hx hby d325 rfl rfl rfl ?_
 refine t_iloadN 12 X3.here hx hby d326 rfl rfl ?_
 refine own_aldC (pc' := 13) X3 hx hZ e3 f4 (j := 1) (v := (.int i_2)) (by decide) rfl (hb hby d327) rfl ?_
 refine t_istore (pc' := 15) (L' := #[vr o0, vi 1, vr o2, vi 1, vi 2, vi 1, vi i_2]) X3.here hx hby d328 rfl rfl ?_
 refine t_iload 17 X3.here hx hby d329 rfl rfl ?_
 refine t_sipush 20 (r := 255) X3.here hx hby d330 (by decide) rfl ?_
 refine t_icmpYes (pc := 20) 26 X3.here hx hby d331 (flt hp1).2.2.2 (by decide) (by decide) ?_
 refine t_aloadN 27 X3.here hx hby d419 rfl rfl rfl ?_
 refine t_iloadN 28 X3.here hx hby d420 rfl rfl ?_
 refine t_iload 30 X3.here hx hby d421 rfl rfl ?_
 refine t_i2b 31 X3.here hx hby d422 rfl rfl ?_
 refine st5 _ ?_
 refine t_iinc (pc' := 35) (L' := #[vr o0, vi 2, vr o2, vi 1, vi 2, vi 1, vi i_2]) X5.here hx hby d424 rfl (by first | rfl | decide) rfl ?_
 refine t_iinc (pc' := 38) (L' := #[vr o0, vi 2, vr o2, vi 2, vi 2, vi 1, vi i_2]) X5.here hx hby d425 rfl (by first | rfl | decide) rfl ?_
 refine t_iinc (pc' := 41) (L' := #[vr o0, vi 2, vr o2, vi 2, vi 2, vi 2, vi i_2]) X5.here hx hby d426 rfl (by first | rfl | decide) rfl ?_
 refine t_goto (pc := 41) 3 X5.here hx hby d427 (by decide) (by decide) ?_
 refine t_iload 5 X5.here hx hby d322 rfl rfl ?_
 refine t_iload 7 X5.here hx hby d323 rfl rfl ?_
 refine t_icmpYes (pc := 7) 44 X5.here hx hby d324 (by decide) (by decide) (by decide) ?_
 refine t_iload 46 X5.here hx hby d428 rfl rfl ?_
 exact retI X5 hx hret (hb hby d429) hr
theorem d430 : decode b26_ 57 = .ok (.aload_n 3, 1) := by decide +kernel
theorem d431 : decode b26_ 58 = .ok (.areturn, 1) := by decide +kernel
def Q_r80_compress (Z : State) (o0 : Addr) (i_2 i_3 : Int32) (k_o0 : ClassId) (h0 : Heap) (n0 : Nat) (v : Option Value) (h : Heap) (L : List Loc) : Prop := ∃ b1 : Addr, ∃ k1 : ClassId, v = some (.ref b1) ∧ Fr n0 L ∧ KL h0 h [] ∧ h0.size ≤ b1 ∧ Arv Z h b1 k1 .byte 2 [(.int (i_2.toInt8.toInt32)), (.int (i_3.toInt8.toInt32))] z0
theorem r80_compress (l : Launch) (Z : State) (a0 : Array Value) (hw : HW Z a0) (ws : List Jvm.Cond) (o0 : Addr) (i_2 i_3 : Int32) (k_o0 : ClassId) (h0 : Heap) (n0 : Nat) (Z0 : n0 ≤ h0.size) (V_o0 : Arv Z h0 o0 k_o0 .char 2 [(.int i_2), (.int i_3)] z0) (hp0 : ¬ ((255 : Int32) < i_2)) (hp1 : ¬ ((255 : Int32) < i_3)) :
    MF l Z y30_compress b26_ 6 (some (.array .byte)) ws ⟨1, 1, 2, 18⟩ #[(.ref o0), z0, (.int 2)] h0 (Q_r80_compress Z o0 i_2 i_3 k_o0 h0 n0) := by
 refine own_body (plainFor_of_name pn_StringUTF16906) (ef_17 o0 (0 : Int32) (2 : Int32)) (by decide) (by decide) ?_
 intro p e s m below meth c s₁ hx hby hml hown hnm hret hZ hh e0 X0
 have N0 := Fr.nil n0
 obtain ⟨T1, h1, k1, X1, e1, E1, A1, st1⟩ := newP (aty := .byte) X0 hx hZ (w20 hw) e0 (g := (mkF m 1 #[vr o0, vi 0, vi 2, .unset, .unset, .unset] [(.int 2)])) rfl (hb hby d312) rfl (by decide) (cap := 2) (by decide) (by decide) (by decide) (by decide)
 obtain ⟨b1, g1⟩ : ∃ z, z = h0.size := ⟨_, rfl⟩
 rw [← g1] at A1 st1
 have ge_b1 : h0.size ≤ b1 := Nat.le_of_eq g1.symm
 have K1 := KL.ofE E1
 have V1 : Arv Z h1 b1 k1 .byte 2 [z0, z0] z0 := (Arv.new A1 (by decide)).pad (pad_rep [] z0 2)
 have f5 := (kArv K1 V_o0 na0)
 have gg6 := Nat.le_trans Z0 ge_b1
 have lt_o0 : o0 < h0.size := Arv.lt V_o0
 have ne7 := lt_ne lt_o0 ge_b1
 obtain ⟨_, T4, L4, X4, hQ4, st4⟩ := own_static X1 hx hZ hown (w62 hw) (w63 hw) (w60 hw) (w64 hw) (by decide) (r81_compress l Z a0 hw [] o0 b1 i_2 i_3 k_o0 k1 h1 n0 (Nat.le_trans Z0 K1.1) f5 hp0 V1 gg6 ne7 hp1) e1 (W := 0) (by decide) (g := (mkF m 9 #[vr o0, vi 0, vi 2, vr b1, .unset, .unset] [(.int 2), z0, (.ref b1), z0, (.ref o0)])) rfl hml.symm (argsL := [(.ref o0), z0, (.ref b1), z0, (.int 2)]) (rest := []) (lenOf pd_22 rfl) rfl rfl (own_wr rfl rfl) (hb hby d319)
 obtain ⟨rfl, N4q, K4, Q4_0⟩ := hQ4
 have N4 := Fr.app N0 N4q
 have C0 := (KL.refl h0 []).trans K1 na0
 have C1 := C0.trans K4 (naO (Or.inr ge_b1) (naO (Or.inr ge_b1) na0))
 refine ⟨T4, _, some (.ref b1), X4, (fun h => by cases h <;> rfl), ?_, fun fs hr => ?_⟩
 · show Q_r80_compress Z o0 i_2 i_3 k_o0 h0 n0 _ T4.heap _
   exact ⟨b1, k1, rfl, N4, C1, ge_b1, Q4_0⟩
 refine t_iloadN 1 X0.here hx hby d311 rfl rfl ?_
 refine st1 _ ?_
 refine t_astoreN (pc' := 4) (L' := #[vr o0, vi 0, vi 2, vr b1, .unset, .unset]) X1.here hx hby d313 rfl rfl rfl ?_
 refine t_aloadN 5 X1.here hx hby d314 rfl rfl rfl ?_
 refine t_iloadN 6 X1.here hx hby d315 rfl rfl ?_
 refine t_aloadN 7 X1.here hx hby d316 rfl rfl rfl ?_
 refine t_iconst 8 (r := 0) X1.here hx hby d317 (by decide) rfl ?_
 refine t_iloadN 9 X1.here hx hby d318 rfl rfl ?_
 refine st4 _ ?_
 refine t_istore (pc' := 14) (L' := #[vr o0, vi 0, vi 2, vr b1, vi 2, .unset]) X4.here hx hby d334 rfl rfl ?_
 refine t_iload 16 X4.here hx hby d335 rfl rfl ?_
 refine t_iloadN 17 X4.here hx hby d336 rfl rfl ?_
 refine t_icmpYes (pc := 17) 57 X4.here hx hby d337 (by decide) (by decide) (by decide) ?_
 refine t_aloadN 58 X4.here hx hby d430 rfl rfl rfl ?_
 jvm_step X4.here [X4.here.top, hx, (hb hby d431), X4.method', hret, Value.isRef, FieldType.isReference]
 first | (intro acts; rw [hr _ acts rfl rfl rfl]) | rw [hr _ _ rfl rfl rfl]
 exact Steps.refl _
def Q_r82_coderFromArrayLen (Z : State) (o0 : Addr) (i_1 i_2 : Int32) (k_o0 : ClassId) (h0 : Heap) (n0 : Nat) (v : Option Value) (h : Heap) (L : List Loc) : Prop := v = some z0 ∧ Fr n0 L ∧ h = h0
theorem r82_coderFromArrayLen (l : Launch) (Z : State) (a0 : Array Value) (hw : HW Z a0) (ws : List Jvm.Cond) (o0 : Addr) (i_1 i_2 : Int32) (k_o0 : ClassId) (h0 : Heap) (n0 : Nat) (Z0 : n0 ≤ h0.size) (V_o0 : Arv Z h0 o0 k_o0 .byte 2 [(.int i_1), (.int i_2)] z0) :
    MF l Z y31_coderFromArrayLen b31_ 2 (some .byte) ws ⟨0, 0, 0, 0⟩ #[(.ref o0), (.int 2)] h0 (Q_r82_coderFromArrayLen Z o0 i_1 i_2 k_o0 h0 n0) := by
 refine own_body (plainFor_of_name pn_StringUTF16906) (ef_4 o0 (2 : Int32)) (by decide) (by decide) ?_
 intro p e s m below meth c s₁ hx hby hml hown hnm hret hZ hh e0 X0
 have N0 := Fr.nil n0
 refine ⟨s₁, _, some z0, X0, (fun h => by cases h <;> rfl), ?_, fun fs hr => ?_⟩
 · show Q_r82_coderFromArrayLen Z o0 i_1 i_2 k_o0 h0 n0 _ s₁.heap _
   rw [e0]
   exact ⟨rfl, N0, rfl⟩
 refine t_iloadN 1 X0.here hx hby d387 rfl rfl ?_
 refine t_aloadN 2 X0.here hx hby d388 rfl rfl rfl ?_
 refine own_arlen (pc' := 3) X0 hx hZ e0 V_o0 (hb hby d389) rfl ?_
 refine t_isub 4 (r := 0) X0.here hx hby d390 (by decide : ((2 : Int32) - (2 : Int32)) = (0 : Int32)) rfl ?_
 refine t_bipush 6 (r := 31) X0.here hx hby d391 (by decide) rfl ?_
 refine t_iushr 7 (r := 0) X0.here hx hby d392 (by decide : (((0 : Int32).toUInt32 >>> ((31 : Int32) &&& 31).toUInt32).toInt32) = (0 : Int32)) rfl ?_
 refine t_i2b 8 (r := 0) X0.here hx hby d393 (by decide : ((0 : Int32).toInt8.toInt32) = (0 : Int32)) rfl ?_
 exact retN X0 hx (t := .byte) hret (by simp) (hb hby d394) hr
def WS_r79__init_ (Z : State) (o0 : Addr) : List (Addr × Nat) := [(o0, (sl1 Z)), (o0, (sl0 Z))]
def Q_r79__init_ (Z : State) (o0 o1 : Addr) (i_2 i_4 i_5 : Int32) (k_o1 : ClassId) (h0 : Heap) (n0 : Nat) (v : Option Value) (h : Heap) (L : List Loc) : Prop := ∃ b1_6 : Addr, ∃ k1_6 : ClassId, v = none ∧ Fr n0 L ∧ KL h0 h (WS_r79__init_ Z o0) ∧ h0.size ≤ b1_6 ∧ Fd1 Z h o0 z0 ∧ Fd0 Z h o0 (.ref b1_6) ∧ Arv Z h b1_6 k1_6 .byte 2 [(.int (i_4.toInt8.toInt32)), (.int (i_5.toInt8.toInt32))] z0
theorem r79__init_ (l : Launch) (Z : State) (a0 : Array Value) (hw : HW Z a0) (ws : List Jvm.Cond) (o0 o1 : Addr) (i_2 i_4 i_5 : Int32) (k_o1 : ClassId) (h0 : Heap) (n0 : Nat) (Z0 : n0 ≤ h0.size) (sCS : SCS Z i_2) (O0 : Old Z n0 h0) (hp0 : ¬ (i_2 = (0 : Int32))) (V_o1 : Arv Z h0 o1 k_o1 .char 2 [(.int i_4), (.int i_5)] z0) (hp1 : ¬ ((255 : Int32) < i_4)) (hp2 : ¬ ((255 : Int32) < i_5)) (F_o0_coder : Fd1 Z h0 o0 z0) (E_o0 : Ex0 Z h0 o0) (g_o0 : n0 ≤ o0) (F_o0_value : Fd0 Z h0 o0 .null) :
    MF l Z y11__init_ b13_ 6 none ws ⟨2, 1, 2, 35⟩ #[(.ref o0), (.ref o1), z0, (.int 2), .null] h0 (Q_r79__init_ Z o0 o1 i_2 i_4 i_5 k_o1 h0 n0) := by
 refine own_body (plainFor_of_name pn_String564) (ef_7 o0 o1 (0 : Int32) (2 : Int32)) (by decide) (by decide) ?_
 intro p e s m below meth c s₁ hx hby hml hown hnm hret hZ hh e0 X0
 have N0 := Fr.nil n0
 obtain ⟨T1, X1, e1, st1⟩ := initO X0 hx hZ hown (w16 hw) (w17 hw) (w18 hw) e0 (g := (mkF m 1 #[vr o0, vr o1, vi 0, vi 2, .val .null, .unset] [(.ref o0)])) rfl hml.symm rfl (hb hby d128) (by decide) (W := 0) (own_wr rfl rfl) (by decide)
 obtain ⟨T3, X3, e3, st3⟩ := getS2 X1 hx hZ hown (host := "") (Or.inl (w41 hw)) Via.refl e1 (Sta.ext O0.2 sCS) (g := (mkF m 27 #[vr o0, vr o1, vi 0, vi 2, .val .null, .unset] [])) rfl (hb hby d305)
 obtain ⟨_, T6, L6, X6, hQ6, st6⟩ := own_static X3 hx hZ hown (w58 hw) (w59 hw) (w60 hw) (w61 hw) (by decide) (r80_compress l Z a0 hw [] o1 i_4 i_5 k_o1 h0 n0 Z0 V_o1 hp1 hp2) e3 (W := 0) (by decide) (g := (mkF m 36 #[vr o0, vr o1, vi 0, vi 2, .val .null, .unset] [(.int 2), z0, (.ref o1)])) rfl hml.symm (argsL := [(.ref o1), z0, (.int 2)]) (rest := []) (lenOf pd_25 rfl) rfl rfl (own_wr rfl rfl) (hb hby d310)
 obtain ⟨b1_6, k1_6, rfl, N6q, K6, Q6_0, Q6_1⟩ := hQ6
 have N6 := Fr.app N0 N6q
 obtain ⟨_, T8, L8, X8, hQ8, st8⟩ := own_static X6 hx hZ hown (w65 hw) (w66 hw) (w60 hw) (w67 hw) (by decide) (r82_coderFromArrayLen l Z a0 hw [] b1_6 (i_4.toInt8.toInt32) (i_5.toInt8.toInt32) k1_6 T6.heap n0 (Nat.le_trans Z0 K6.1) Q6_1) rfl (W := 1) (by decide) (g := (mkF m 45 #[vr o0, vr o1, vi 0, vi 2, .val .null, vr b1_6] [(.int 2), (.ref b1_6), (.ref o0)])) rfl hml.symm (argsL := [(.ref b1_6), (.int 2)]) (rest := [(.ref o0)]) (lenOf pd_26 rfl) rfl rfl (own_wr rfl rfl) (hb hby d386)
 obtain ⟨rfl, N8q, e8⟩ := hQ8
 have N8 := Fr.app N6 N8q
 have f9 := (kFld K6 F_o0_coder nw0)
 have f10 := (kExa K6 E_o0)
 obtain ⟨T11, h11, X11, e11, W11, st11⟩ := putF X8 hx hZ hown (host := "") (Or.inl (w26 hw)) Via.refl e8 f9 f10 (Or.inr ⟨(w22 hw), rfl, hnm⟩) (w6 hw) (ty := .byte) (by decide) (by decide) (by decide) (g := (mkF m 48 #[vr o0, vr o1, vi 0, vi 2, .val .null, vr b1_6] [z0, (.ref o0)])) rfl rfl (hb hby d395)
 have K11 := KL.ofW W11
 have Fw11 : Fd1 Z h11 o0 z0 := Fld.same W11 f9
 have N11 := Fr.snoc X11 N8 g_o0
 have f12 := (kFld K11 (kFld K6 F_o0_value nw0) (nwR (sn_1 hw) nw0))
 have f13 := (kExa K11 f10)
 obtain ⟨T14, h14, X14, e14, W14, st14⟩ := putF X11 hx hZ hown (host := "") (Or.inl (w25 hw)) Via.refl e11 f12 f13 (Or.inr ⟨(w21 hw), rfl, hnm⟩) (w6 hw) (ty := (.array .byte)) (by decide) rfl rfl (g := (mkF m 54 #[vr o0, vr o1, vi 0, vi 2, .val .null, vr b1_6] [(.ref b1_6), (.ref o0)])) rfl rfl (hb hby d398)
 have K14 := KL.ofW W14
 have Fw14 : Fd0 Z h14 o0 (.ref b1_6) := Fld.same W14 f12
 have N14 := Fr.snoc X14 N11 g_o0
 have C0 := (KL.refl h0 (WS_r79__init_ Z o0)).trans K6 na0
 have C1 := C0.trans K11 (naO (own_mi 0 rfl) na0)
 have C2 := C1.trans K14 (naO (own_mi 1 rfl) na0)
 have f15 := (kFld K14 Fw11 (nwR (sn_0 hw) nw0))
 have lt_o0 : o0 < h0.size := Fld.lt F_o0_coder
 have ne16 := lt_ne lt_o0 Q6_0
 have f17 := (kArv K14 (kArv K11 Q6_1 (naN ne16 na0)) (naN ne16 na0))
 refine ⟨T14, _, none, X14, (fun h => by cases h <;> rfl), ?_, fun fs hr => ?_⟩
 · show Q_r79__init_ Z o0 o1 i_2 i_4 i_5 k_o1 h0 n0 _ T14.heap _
   rw [e14]
   exact ⟨b1_6, k1_6, rfl, N14, C2, Q6_0, f15, Fw14, f17⟩
 refine t_aloadN 1 X0.here hx hby d127 rfl rfl rfl ?_
 refine st1 _ ?_
 refine t_iloadN 5 X1.here hx hby d129 rfl rfl ?_
 refine t_ifYes (pc := 5) 27 X1.here hx hby d130 (by decide) (by decide) (by decide) ?_
 refine st3 _ ?_
 refine t_ifNo 33 X3.here hx hby d306 ((if0 _ _).trans (feq hp0).1) rfl ?_
 refine t_aloadN 34 X3.here hx hby d307 rfl rfl rfl ?_
 refine t_iloadN 35 X3.here hx hby d308 rfl rfl ?_
 refine t_iloadN 36 X3.here hx hby d309 rfl rfl ?_
 refine st6 _ ?_
 refine t_astore (pc' := 41) (L' := #[vr o0, vr o1, vi 0, vi 2, .val .null, vr b1_6]) X6.here hx hby d382 rfl rfl rfl ?_
 refine t_aloadN 42 X6.here hx hby d383 rfl rfl rfl ?_
 refine t_aload 44 X6.here hx hby d384 rfl rfl rfl ?_
 refine t_iloadN 45 X6.here hx hby d385 rfl rfl ?_
 refine st8 _ ?_
 refine st11 _ ?_
 refine t_aloadN 52 X11.here hx hby d396 rfl rfl rfl ?_
 refine t_aload 54 X11.here hx hby d397 rfl rfl rfl ?_
 refine st14 _ ?_
 exact X14.returnOut hx hret (hb hby d399) hr
def WS_r78__init_ (Z : State) (o0 : Addr) : List (Addr × Nat) := [(o0, (sl1 Z)), (o0, (sl0 Z))]
def Q_r78__init_ (Z : State) (o0 o1 : Addr) (i_1 i_2 : Int32) (k_o1 : ClassId) (i_3 : Int32) (h0 : Heap) (n0 : Nat) (v : Option Value) (h : Heap) (L : List Loc) : Prop := ∃ b1_6_4 : Addr, ∃ k1_6_4 : ClassId, v = none ∧ Fr n0 L ∧ KL h0 h (WS_r78__init_ Z o0) ∧ h0.size ≤ b1_6_4 ∧ Fd1 Z h o0 z0 ∧ Fd0 Z h o0 (.ref b1_6_4) ∧ Arv Z h b1_6_4 k1_6_4 .byte 2 [(.int (i_1.toInt8.toInt32)), (.int (i_2.toInt8.toInt32))] z0
theorem r78__init_ (l : Launch) (Z : State) (a0 : Array Value) (hw : HW Z a0) (ws : List Jvm.Cond) (o0 o1 : Addr) (i_1 i_2 : Int32) (k_o1 : ClassId) (i_3 : Int32) (h0 : Heap) (n0 : Nat) (Z0 : n0 ≤ h0.size) (V_o1 : Arv Z h0 o1 k_o1 .char 2 [(.int i_1), (.int i_2)] z0) (sCS : SCS Z i_3) (F_o0_coder : Fd1 Z h0 o0 z0) (E_o0 : Ex0 Z h0 o0) (F_o0_value : Fd0 Z h0 o0 .null) (O0 : Old Z n0 h0) (hp0 : ¬ (i_3 = (0 : Int32))) (hp1 : ¬ ((255 : Int32) < i_1)) (hp2 : ¬ ((255 : Int32) < i_2)) (g_o0 : n0 ≤ o0) :
    MF l Z y12__init_ b12_ 2 none ws ⟨3, 1, 2, 52⟩ #[(.ref o0), (.ref o1)] h0 (Q_r78__init_ Z o0 o1 i_1 i_2 k_o1 i_3 h0 n0) := by
 refine own_body (plainFor_of_name pn_String564) (ef_5 o0 o1) (by decide) (by decide) ?_
 intro p e s m below meth c s₁ hx hby hml hown hnm hret hZ hh e0 X0
 have N0 := Fr.nil n0
 obtain ⟨_, T4, L4, X4, hQ4, st4⟩ := own_init X0 hx hZ rfl hown (w12 hw) (w13 hw) (w7 hw) (w15 hw) (by decide) (r79__init_ l Z a0 hw [] o0 o1 i_3 i_1 i_2 k_o1 h0 n0 Z0 sCS O0 hp0 V_o1 hp1 hp2 F_o0_coder E_o0 g_o0 F_o0_value) e0 (W := 0) (by decide) (g := (mkF m 6 #[vr o0, vr o1] [.null, (.int 2), z0, (.ref o1), (.ref o0)])) rfl hml.symm (argsL := [(.ref o1), z0, (.int 2), .null]) (rest := []) (lenOf pd_9 rfl) rfl rfl (own_wr rfl rfl) (hb hby d126)
 obtain ⟨b1_6_4, k1_6_4, rfl, N4q, K4, Q4_0, Q4_1, Q4_2, Q4_3⟩ := hQ4
 have N4 := Fr.app N0 N4q
 have C0 := (KL.refl h0 (WS_r78__init_ Z o0)).trans K4 (naO (own_mi 0 rfl) (naO (own_mi 1 rfl) na0))
 refine ⟨T4, _, none, X4, (fun h => by cases h <;> rfl), ?_, fun fs hr => ?_⟩
 · show Q_r78__init_ Z o0 o1 i_1 i_2 k_o1 i_3 h0 n0 _ T4.heap _
   exact ⟨b1_6_4, k1_6_4, rfl, N4, C0, Q4_0, Q4_1, Q4_2, Q4_3⟩
 refine t_aloadN 1 X0.here hx hby d120 rfl rfl rfl ?_
 refine t_aloadN 2 X0.here hx hby d121 rfl rfl rfl ?_
 refine t_iconst 3 (r := 0) X0.here hx hby d122 (by decide) rfl ?_
 refine t_aloadN 4 X0.here hx hby d123 rfl rfl rfl ?_
 refine own_arlen (pc' := 5) X0 hx hZ e0 V_o1 (hb hby d124) rfl ?_
 refine t_aconst_null 6 X0.here hx hby d125 rfl ?_
 refine st4 _ ?_
 exact X4.returnOut hx hret (hb hby d140) hr
def Q_r77_make (Z : State) (i_1 i_2 i_3 i_9 : Int32) (h0 : Heap) (n0 : Nat) (v : Option Value) (h : Heap) (L : List Loc) : Prop := ∃ b4 : Addr, ∃ b1_6_4_10 : Addr, ∃ k1_6_4_10 : ClassId, v = some (.ref b4) ∧ Fr n0 L ∧ KL h0 h [] ∧ h0.size ≤ b4 ∧ h0.size ≤ b1_6_4_10 ∧ b4 ≠ b1_6_4_10 ∧ Ex0 Z h b4 ∧ Fd0 Z h b4 (.ref b1_6_4_10) ∧ Fd1 Z h b4 z0 ∧ Arv Z h b1_6_4_10 k1_6_4_10 .byte 2 [(.int (i_1.toInt8.toInt32)), (.int (i_2.toInt8.toInt32))] z0
theorem r77_make (l : Launch) (Z : State) (a0 : Array Value) (hw : HW Z a0) (ws : List Jvm.Cond) (i_1 i_2 i_3 i_9 : Int32) (h0 : Heap) (n0 : Nat) (Z0 : n0 ≤ h0.size) (hp0 : ¬ (i_1 < (0 : Int32))) (hp1 : ¬ ((65535 : Int32) < i_1)) (hp2 : ¬ (i_2 < (0 : Int32))) (hp3 : ¬ ((65535 : Int32) < i_2)) (sCS : SCS Z i_9) (O0 : Old Z n0 h0) (hp4 : ¬ (i_9 = (0 : Int32))) (hp5 : ¬ ((255 : Int32) < i_1)) (hp6 : ¬ ((255 : Int32) < i_2)) :
    MF l Z y13_make b11_ 4 (some (.object "java/lang/String")) ws ⟨4, 3, 8, 66⟩ #[(.int 2), (.int i_1), (.int i_2), (.int i_3)] h0 (Q_r77_make Z i_1 i_2 i_3 i_9 h0 n0) := by
 refine own_body (plainFor_of_name pn_PaymentFrequencyUnitOfPinLaw855) (ef_8 (2 : Int32) i_1 i_2 i_3) (by decide) (by decide) ?_
 intro p e s m below meth c s₁ hx hby hml hown hnm hret hZ hh e0 X0
 have N0 := Fr.nil n0
 obtain ⟨T4, h4, X4, e4, E4, A4, D4, -, st4⟩ := newO X0 hx hZ hown (w5 hw) (w6 hw) (w7 hw) e0 (g := (mkF m 30 #[vi 2, vi i_1, vi i_2, vi i_3] [])) rfl (hb hby d292) (by decide) (by decide)
 obtain ⟨b4, g4⟩ : ∃ z, z = h0.size := ⟨_, rfl⟩
 rw [← g4] at A4 D4 st4
 have ge_b4 : h0.size ≤ b4 := Nat.le_of_eq g4.symm
 have K4 := KL.ofE E4
 have F_b4_value : Fd0 Z h4 b4 .null := D4 (Or.inr (w21 hw)) (ty := (.array .byte)) (by decide)
 have F_b4_coder : Fd1 Z h4 b4 z0 := D4 (Or.inr (w22 hw)) (ty := .byte) (by decide)
 obtain ⟨T5, h5, k5, X5, e5, E5, A5, st5⟩ := newP (aty := .char) X4 hx hZ (w8 hw) e4 (g := (mkF m 35 #[vi 2, vi i_1, vi i_2, vi i_3] [(.int 2), (.ref b4), (.ref b4)])) rfl (hb hby d295) rfl (by decide) (cap := 2) (by decide) (by decide) (by decide) (by decide)
 obtain ⟨b5, g5⟩ : ∃ z, z = h4.size := ⟨_, rfl⟩
 rw [← g5] at A5 st5
 have ge_b5 : h4.size ≤ b5 := Nat.le_of_eq g5.symm
 have K5 := KL.ofE E5
 have V5 : Arv Z h5 b5 k5 .char 2 [z0, z0] z0 := (Arv.new A5 (by decide)).pad (pad_rep [] z0 2)
 obtain ⟨T6, h6, X6, e6, W6, V6, st6⟩ := own_astC X5 hx hZ e5 V5 (j := 0) (by decide) 0 rfl (Nat.le_of_ble_eq_true rfl) (g := (mkF m 40 #[vi 2, vi i_1, vi i_2, vi i_3] [(.int i_1), z0, (.ref b5), (.ref b5), (.ref b4), (.ref b4)])) rfl rfl (hb hby d299)
 rw [show (nar .char i_1) = i_1 from (own_c2d hp0 hp1)] at V6
 have gg7 := Nat.le_trans Z0 (Nat.le_trans K4.1 ge_b5)
 have K6 := KL.ofW W6
 replace V6 : Arv Z h6 b5 k5 .char 2 [(.int i_1), z0] z0 := V6
 have N6 := Fr.snoc X6 N0 gg7
 obtain ⟨T8, h8, X8, e8, W8, V8, st8⟩ := own_astC X6 hx hZ e6 V6 (j := 1) (by decide) 1 rfl (Nat.le_of_ble_eq_true rfl) (g := (mkF m 44 #[vi 2, vi i_1, vi i_2, vi i_3] [(.int i_2), (.int 1), (.ref b5), (.ref b5), (.ref b4), (.ref b4)])) rfl rfl (hb hby d303)
 rw [show (nar .char i_2) = i_2 from (own_c2d hp2 hp3)] at V8
 have K8 := KL.ofW W8
 replace V8 : Arv Z h8 b5 k5 .char 2 [(.int i_1), (.int i_2)] z0 := V8
 have N8 := Fr.snoc X8 N6 gg7
 have lt_b4 : b4 < h4.size := Exa.lt A4
 have ne11 := lt_ne lt_b4 ge_b5
 have f12 := (kFld K8 (kFld K6 (kFld K5 F_b4_coder nw0) (nwL ne11 nw0)) (nwL ne11 nw0))
 have f13 := (kExa K8 (kExa K6 (kExa K5 A4)))
 have f14 := (kFld K8 (kFld K6 (kFld K5 F_b4_value nw0) (nwL ne11 nw0)) (nwL ne11 nw0))
 have f15 := (kOld K8 (kOld K6 (kOld K5 (kOld K4 O0 na0) na0) (naG gg7 na0)) (naG gg7 na0))
 have gg16 := Nat.le_trans Z0 ge_b4
 have sz_0_2 := (Nat.le_trans K4.1 K5.1)
 have sz_0_3 := (Nat.le_trans sz_0_2 K6.1)
 have sz_0_4 := (Nat.le_trans sz_0_3 K8.1)
 obtain ⟨_, T10, L10, X10, hQ10, st10⟩ := own_init X8 hx hZ rfl hown (w9 hw) (w10 hw) (w7 hw) (w11 hw) (by decide) (r78__init_ l Z a0 hw [] b4 b5 i_1 i_2 k5 i_9 h8 n0 (Nat.le_trans Z0 sz_0_4) V8 sCS f12 f13 f14 f15 hp4 hp5 hp6 gg16) e8 (W := 1) (by decide) (g := (mkF m 45 #[vi 2, vi i_1, vi i_2, vi i_3] [(.ref b5), (.ref b4), (.ref b4)])) rfl hml.symm (argsL := [(.ref b5)]) (rest := [(.ref b4)]) (lenOf pd_10 rfl) rfl rfl (own_wr rfl rfl) (hb hby d304)
 obtain ⟨b1_6_4_10, k1_6_4_10, rfl, N10q, K10, Q10_0, Q10_1, Q10_2, Q10_3⟩ := hQ10
 have N10 := Fr.app N8 N10q
 have C0 := (KL.refl h0 []).trans K4 na0
 have C1 := C0.trans K5 na0
 have C2 := C1.trans K6 (naO (Or.inr (Nat.le_trans K4.1 ge_b5)) na0)
 have C3 := C2.trans K8 (naO (Or.inr (Nat.le_trans K4.1 ge_b5)) na0)
 have C4 := C3.trans K10 (naO (Or.inr ge_b4) (naO (Or.inr ge_b4) na0))
 have sz_1_3 := (Nat.le_trans K5.1 K6.1)
 have sz_1_4 := (Nat.le_trans sz_1_3 K8.1)
 have ne18 := lt_ne (Nat.lt_of_lt_of_le lt_b4 sz_1_4) Q10_0
 have f19 := (kExa K10 f13)
 refine ⟨T10, _, some (.ref b4), X10, (fun h => by cases h <;> rfl), ?_, fun fs hr => ?_⟩
 · show Q_r77_make Z i_1 i_2 i_3 i_9 h0 n0 _ T10.heap _
   exact ⟨b4, b1_6_4_10, k1_6_4_10, rfl, N10, C4, ge_b4, (Nat.le_trans sz_0_4 Q10_0), ne18, f19, Q10_2, Q10_1, Q10_3⟩
 refine t_iloadN 1 X0.here hx hby d113 rfl rfl ?_
 refine t_ifYes (pc := 1) 15 X0.here hx hby d114 (by decide) (by decide) (by decide) ?_
 refine t_iloadN 16 X0.here hx hby d151 rfl rfl ?_
 refine t_iconst 17 (r := 1) X0.here hx hby d152 (by decide) rfl ?_
 refine t_icmpYes (pc := 17) 25 X0.here hx hby d153 (by decide) (by decide) (by decide) ?_
 refine t_iloadN 26 X0.here hx hby d289 rfl rfl ?_
 refine t_iconst 27 (r := 2) X0.here hx hby d290 (by decide) rfl ?_
 refine t_icmpNo 30 X0.here hx hby d291 (by decide) rfl ?_
 refine st4 _ ?_
 refine t_dup 34 X4.here hx hby d293 rfl rfl ?_
 refine t_iconst 35 (r := 2) X4.here hx hby d294 (by decide) rfl ?_
 refine st5 _ ?_
 refine t_dup 38 X5.here hx hby d296 rfl rfl ?_
 refine t_iconst 39 (r := 0) X5.here hx hby d297 (by decide) rfl ?_
 refine t_iloadN 40 X5.here hx hby d298 rfl rfl ?_
 refine st6 _ ?_
 refine t_dup 42 X6.here hx hby d300 rfl rfl ?_
 refine t_iconst 43 (r := 1) X6.here hx hby d301 (by decide) rfl ?_
 refine t_iloadN 44 X6.here hx hby d302 rfl rfl ?_
 refine st8 _ ?_
 refine st10 _ ?_
 jvm_step X10.here [X10.here.top, hx, (hb hby d400), X10.method', hret, Value.isRef, FieldType.isReference]
 first | (intro acts; rw [hr _ acts rfl rfl rfl]) | rw [hr _ _ rfl rfl rfl]
 exact Steps.refl _
def Q_r84_length (Z : State) (o0 o_1 : Addr) (i_3 i_4 : Int32) (k_o_1 : ClassId) (i_5 : Int32) (h0 : Heap) (n0 : Nat) (v : Option Value) (h : Heap) (L : List Loc) : Prop := v = some (.int 2) ∧ Fr n0 L ∧ h = h0
theorem r84_length (l : Launch) (Z : State) (a0 : Array Value) (hw : HW Z a0) (ws : List Jvm.Cond) (o0 o_1 : Addr) (i_3 i_4 : Int32) (k_o_1 : ClassId) (i_5 : Int32) (h0 : Heap) (n0 : Nat) (Z0 : n0 ≤ h0.size) (F_o0_value : Fd0 Z h0 o0 (.ref o_1)) (V_o_1 : Arv Z h0 o_1 k_o_1 .byte 2 [(.int i_3), (.int i_4)] z0) (E_o0 : Ex0 Z h0 o0) (sCS : SCS Z i_5) (F_o0_coder : Fd1 Z h0 o0 z0) (O0 : Old Z n0 h0) (hp0 : ¬ (i_5 = (0 : Int32))) :
    MF l Z y3_length b3_ 1 (some .int) ws ⟨1, 0, 0, 13⟩ #[(.ref o0)] h0 (Q_r84_length Z o0 o_1 i_3 i_4 k_o_1 i_5 h0 n0) := by
 refine own_body (plainFor_of_name pn_String564) (ef_3 o0) (by decide) (by decide) ?_
 intro p e s m below meth c s₁ hx hby hml hown hnm hret hZ hh e0 X0
 have N0 := Fr.nil n0
 obtain ⟨T2, X2, e2, st2⟩ := getF X0 hx hZ hown (host := "") (Or.inl (w25 hw)) Via.refl e0 F_o0_value (g := (mkF m 1 #[vr o0] [(.ref o0)])) rfl rfl (hb hby d18)
 obtain ⟨_, T6, L6, X6, hQ6, st6⟩ := own_virtual X2 hx hZ hown (w36 hw) (w37 hw) (nfS hZ (w39 hw)) (w39 hw) (w38 hw) (w7 hw) (w40 hw) (by decide) (r2_coder l Z a0 hw [] o0 i_5 h0 n0 Z0 sCS O0 hp0 F_o0_coder) e2 E_o0 (W := 1) (by decide) (g := (mkF m 6 #[vr o0] [(.ref o0), (.int 2)])) rfl hml.symm (argsL := []) (rest := [(.int 2)]) (lenOf pd_1 rfl) rfl rfl (own_wr rfl rfl) (hb hby d21)
 obtain ⟨rfl, N6q, e6⟩ := hQ6
 have N6 := Fr.app N0 N6q
 refine ⟨T6, _, some (.int 2), X6, (fun h => by cases h <;> rfl), ?_, fun fs hr => ?_⟩
 · show Q_r84_length Z o0 o_1 i_3 i_4 k_o_1 i_5 h0 n0 _ T6.heap _
   rw [e6]
   exact ⟨rfl, N6, rfl⟩
 refine t_aloadN 1 X0.here hx hby d17 rfl rfl rfl ?_
 refine st2 _ ?_
 refine own_arlen (pc' := 5) X2 hx hZ e2 V_o_1 (hb hby d19) rfl ?_
 refine t_aloadN 6 X2.here hx hby d20 rfl rfl rfl ?_
 refine st6 _ ?_
 refine t_ishr 10 (r := 2) X6.here hx hby d28 (by decide : ((2 : Int32) >>> ((0 : Int32) &&& 31)) = (2 : Int32)) rfl ?_
 exact retI X6 hx hret (hb hby d29) hr
def Q_r83_unitOf (Z : State) (o0 o_1 : Addr) (i_2 i_3 : Int32) (k_o_1 : ClassId) (i_4 : Int32) (o_6 : Addr) (h0 : Heap) (n0 : Nat) (v : Option Value) (h : Heap) (L : List Loc) : Prop := v = some (.ref o_6) ∧ Fr n0 L ∧ h = h0
theorem r83_unitOf (l : Launch) (Z : State) (a0 : Array Value) (hw : HW Z a0) (ws : List Jvm.Cond) (o0 o_1 : Addr) (i_2 i_3 : Int32) (k_o_1 : ClassId) (i_4 : Int32) (o_6 : Addr) (h0 : Heap) (n0 : Nat) (Z0 : n0 ≤ h0.size) (E_o0 : Ex0 Z h0 o0) (F_o0_value : Fd0 Z h0 o0 (.ref o_1)) (V_o_1 : Arv Z h0 o_1 k_o_1 .byte 2 [(.int i_2), (.int i_3)] z0) (sCS : SCS Z i_4) (F_o0_coder : Fd1 Z h0 o0 z0) (O0 : Old Z n0 h0) (hp0 : ¬ (i_4 = (0 : Int32))) (S_EMPTY : Sa4 Z (.ref o_6)) :
    MF l Z y9_unitOf b2_ 2 (some (.object "java/util/Optional")) ws ⟨2, 0, 0, 25⟩ #[(.ref o0)] h0 (Q_r83_unitOf Z o0 o_1 i_2 i_3 k_o_1 i_4 o_6 h0 n0) := by
 refine own_body (plainFor_of_name pn_PaymentFrequency668) (ef_6 o0) (by decide) (by decide) ?_
 intro p e s m below meth c s₁ hx hby hml hown hnm hret hZ hh e0 X0
 have N0 := Fr.nil n0
 obtain ⟨_, T5, L5, X5, hQ5, st5⟩ := own_virtual X0 hx hZ hown (w31 hw) (w32 hw) (nfS hZ (w34 hw)) (w34 hw) (w33 hw) (w7 hw) (w35 hw) (by decide) (r84_length l Z a0 hw [] o0 o_1 i_2 i_3 k_o_1 i_4 h0 n0 Z0 F_o0_value V_o_1 E_o0 sCS F_o0_coder O0 hp0) e0 E_o0 (W := 0) (by decide) (g := (mkF m 3 #[vr o0, .val .null] [(.ref o0)])) rfl hml.symm (argsL := []) (rest := []) (lenOf pd_2 rfl) rfl rfl (own_wr rfl rfl) (hb hby d16)
 obtain ⟨rfl, N5q, e5⟩ := hQ5
 have N5 := Fr.app N0 N5q
 obtain ⟨_, T7, L7, X7, hQ7, st7⟩ := own_static X5 hx hZ hown (w42 hw) (w43 hw) (w44 hw) (w45 hw) (by decide) (r13_ofNullable l Z a0 hw [] o_6 h0 n0 Z0 S_EMPTY O0) e5 (W := 0) (by decide) (g := (mkF m 93 #[vr o0, .val .null] [.null])) rfl hml.symm (argsL := [.null]) (rest := []) (lenOf pd_8 rfl) rfl rfl (own_wr rfl rfl) (hb hby d67)
 obtain ⟨rfl, N7q, e7⟩ := hQ7
 have N7 := Fr.app N5 N7q
 refine ⟨T7, _, some (.ref o_6), X7, (fun h => by cases h <;> rfl), ?_, fun fs hr => ?_⟩
 · show Q_r83_unitOf Z o0 o_1 i_2 i_3 k_o_1 i_4 o_6 h0 n0 _ T7.heap _
   rw [e7]
   exact ⟨rfl, N7, rfl⟩
 refine t_aconst_null 1 X0.here hx hby d13 rfl ?_
 refine t_astoreN (pc' := 2) (L' := #[vr o0, .val .null]) X0.here hx hby d14 rfl rfl rfl ?_
 refine t_aloadN 3 X0.here hx hby d15 rfl rfl rfl ?_
 refine st5 _ ?_
 refine t_iconst 7 (r := 1) X5.here hx hby d30 (by decide) rfl ?_
 refine t_icmpYes (pc := 7) 92 X5.here hx hby d31 (by decide) (by decide) (by decide) ?_
 refine t_aloadN 93 X5.here hx hby d66 rfl rfl rfl ?_
 refine st7 _ ?_
 jvm_step X7.here [X7.here.top, hx, (hb hby d81), X7.method', hret, Value.isRef, FieldType.isReference]
 first | (intro acts; rw [hr _ acts rfl rfl rfl]) | rw [hr _ _ rfl rfl rfl]
 exact Steps.refl _
theorem law_a2_s (l : Launch) (Z : State) (a0 : Array Value) (hw : HW Z a0) (ws : List Jvm.Cond) (p0 p1 p2 p3 cs : Int32) (fm : Value) (st_EMPTY st_DAYS st_MONTHS st_YEARS : Addr) (h0 : Heap) (n0 : Nat) (Z0 : n0 ≤ h0.size) (ha : ¬ ((255 : Int32) < (own_ch p1))) (hbb : ¬ ((255 : Int32) < (own_ch p2))) (hcs : ¬ (cs = (0 : Int32))) (hln : (p0 &&& (3 : Int32)) = (2 : Int32)) (hbit : (((p0.toUInt32 >>> ((2 : Int32) &&& 31).toUInt32).toInt32) &&& (1 : Int32)) = (0 : Int32)) (sCS : SCS Z cs) (O0 : Old Z n0 h0) (S_EMPTY : Sa4 Z (.ref st_EMPTY)) (E_st_EMPTY : Ex1 Z h0 st_EMPTY) (F_st_EMPTY_value : Fd2 Z h0 st_EMPTY .null) :
    LawM l Z ws p0 p1 p2 p3 h0 n0 := by
 refine own_bodyH (k := 3) (n := 8) (y := x) (Q := fun v _ L => Q_law n0 v L) (own_EW hw) (plainFor_of_name pn_PaymentFrequencyUnitOfPinLaw855) (ef_law p0 p1 p2 p3) (by decide) (by decide) ?_
 intro p e s m below meth c s₁ hx hby hml hown hnm hret hZ e0 hS0 hk0 X0 hC0 hSF0
 have N0 := Fr.nil n0
 obtain ⟨_, T1, L1, X1, hQ1, st1⟩ := own_static X0 hx hZ hown (w1 hw) (w2 hw) (w3 hw) (w4 hw) (by decide) (r77_make l Z a0 hw [] (own_ch p1) (own_ch p2) (own_ch p3) cs h0 n0 Z0 (own_m16a p1) (own_m16b p1) (own_m16a p2) (own_m16b p2) sCS O0 hcs ha hbb) e0 (W := 0) (by decide) (g := (mkF m 102 #[vi p0, vi p1, vi p2, vi p3, vi 2, vi ((own_ch p1)), vi ((own_ch p2)), vi ((own_ch p3)), .unset, .unset, .unset] [(.int (own_ch p3)), (.int (own_ch p2)), (.int (own_ch p1)), (.int 2)])) rfl hml.symm (argsL := [(.int 2), (.int (own_ch p1)), (.int (own_ch p2)), (.int (own_ch p3))]) (rest := []) (lenOf pd_11 rfl) rfl rfl (own_wr rfl rfl) (hb hby at_102)
 obtain ⟨b4_1, b1_6_4_10_1, k1_6_4_10_1, rfl, N1q, K1, Q1_0, Q1_1, Q1_2, Q1_3, Q1_4, Q1_5, Q1_6⟩ := hQ1
 have N1 := Fr.app N0 N1q
 have Ck0 := own_chK K1 na0 (CHr.refl hC0).1
 have Ah1 := (CHr.refl hC0).trans Ck0.1
 have f5 := (kOld K1 O0 na0)
 obtain ⟨_, T4, L4, X4, hQ4, st4⟩ := own_static X1 hx hZ hown (w27 hw) (w28 hw) (w29 hw) (w30 hw) (by decide) (r83_unitOf l Z a0 hw [] b4_1 b1_6_4_10_1 ((own_ch p1).toInt8.toInt32) ((own_ch p2).toInt8.toInt32) k1_6_4_10_1 cs st_EMPTY T1.heap n0 (Nat.le_trans Z0 K1.1) Q1_3 Q1_4 Q1_6 sCS Q1_5 f5 hcs S_EMPTY) rfl (W := 0) (by decide) (g := (mkF m 109 #[vi p0, vi p1, vi p2, vi p3, vi 2, vi ((own_ch p1)), vi ((own_ch p2)), vi ((own_ch p3)), vr b4_1, .unset, .unset] [(.ref b4_1)])) rfl hml.symm (argsL := [(.ref b4_1)]) (rest := []) (lenOf pd_12 rfl) rfl rfl (own_wr rfl rfl) (hb hby at_109)
 obtain ⟨rfl, N4q, e4⟩ := hQ4
 have N4 := Fr.app N1 N4q
 obtain ⟨_, T6, L6, X6, hQ6, st6⟩ := own_static X4 hx hZ hown (w47 hw) (w48 hw) (w3 hw) (w49 hw) (by decide) (r54_expected l Z a0 hw [] (own_ch p1) T1.heap n0 (Nat.le_trans Z0 K1.1)) e4 (W := 0) (by decide) (g := (mkF m 118 #[vi p0, vi p1, vi p2, vi p3, vi 2, vi ((own_ch p1)), vi ((own_ch p2)), vi ((own_ch p3)), vr b4_1, vr st_EMPTY, .unset] [(.int (own_ch p1)), (.int 2)])) rfl hml.symm (argsL := [(.int 2), (.int (own_ch p1))]) (rest := []) (lenOf pd_13 rfl) rfl rfl (own_wr rfl rfl) (hb hby at_118)
 obtain ⟨rfl, N6q, e6⟩ := hQ6
 have N6 := Fr.app N4 N6q
 have f8 := (kFld K1 F_st_EMPTY_value nw0)
 have f9 := (kExa K1 E_st_EMPTY)
 obtain ⟨_, T7, L7, X7, hQ7, st7⟩ := own_virtual X6 hx hZ hown (w50 hw) (w51 hw) (nfS hZ (w53 hw)) (w53 hw) (w52 hw) (w44 hw) (w54 hw) (by decide) (r15_isPresent l Z a0 hw [] st_EMPTY T1.heap n0 (Nat.le_trans Z0 K1.1) f8) e6 f9 (W := 0) (by decide) (g := (mkF m 130 #[vi p0, vi p1, vi p2, vi p3, vi 2, vi ((own_ch p1)), vi ((own_ch p2)), vi ((own_ch p3)), vr b4_1, vr st_EMPTY, .val .null] [(.ref st_EMPTY)])) rfl hml.symm (argsL := []) (rest := []) (lenOf pd_3 rfl) rfl rfl (own_wr rfl rfl) (hb hby at_130)
 obtain ⟨rfl, N7q, e7⟩ := hQ7
 have N7 := Fr.app N6 N7q
 refine ⟨T7, _, some (.int 1), _, _, X7, hS0, (by rw [e7]; exact (Nat.le_trans hk0 K1.1)), (fun h => by cases h <;> rfl), ?_, (by rw [e7]; exact Ah1), hZ, fun fs hr => ?_⟩
 · show Q_law n0 _ _
   exact ⟨rfl, N7⟩
 refine t_iloadN 1 X0.here hx hby at_0 rfl rfl ?_
 refine t_iconst 2 (r := 3) X0.here hx hby at_1 (by decide) rfl ?_
 refine t_iand 3 (r := 2) X0.here hx hby at_2 hln rfl ?_
 refine t_istore (pc' := 5) (L' := #[vi p0, vi p1, vi p2, vi p3, vi 2, .unset, .unset, .unset, .unset, .unset, .unset]) X0.here hx hby at_3 rfl rfl ?_
 refine t_iloadN 6 X0.here hx hby at_5 rfl rfl ?_
 refine X0.ldcInt hx hown (mvT hZ (w0 hw)) (g := (mkF m 6 #[vi p0, vi p1, vi p2, vi p3, vi 2, .unset, .unset, .unset, .unset, .unset, .unset] [(.int p1)])) rfl (hb hby at_6) _ ?_
 refine t_iand 9 (r := (own_ch p1)) X0.here hx hby at_8 (Eq.refl (own_ch p1)) rfl ?_
 refine t_i2c 10 (r := (own_ch p1)) X0.here hx hby at_9 (own_c2d (own_m16a p1) (own_m16b p1)) rfl ?_
 refine t_istore (pc' := 12) (L' := #[vi p0, vi p1, vi p2, vi p3, vi 2, vi ((own_ch p1)), .unset, .unset, .unset, .unset, .unset]) X0.here hx hby at_10 rfl rfl ?_
 refine t_iloadN 13 X0.here hx hby at_12 rfl rfl ?_
 refine t_iconst 14 (r := 2) X0.here hx hby at_13 (by decide) rfl ?_
 refine t_iushr 15 X0.here hx hby at_14 rfl rfl ?_
 refine t_iconst 16 (r := 1) X0.here hx hby at_15 (by decide) rfl ?_
 refine t_iand 17 (r := 0) X0.here hx hby at_16 hbit rfl ?_
 refine t_ifYes (pc := 17) 80 X0.here hx hby at_17 (by decide) (by decide) (by decide) ?_
 refine t_iloadN 81 X0.here hx hby at_80 rfl rfl ?_
 refine X0.ldcInt hx hown (mvT hZ (w0 hw)) (g := (mkF m 81 #[vi p0, vi p1, vi p2, vi p3, vi 2, vi ((own_ch p1)), .unset, .unset, .unset, .unset, .unset] [(.int p2)])) rfl (hb hby at_81) _ ?_
 refine t_iand 84 (r := (own_ch p2)) X0.here hx hby at_83 (Eq.refl (own_ch p2)) rfl ?_
 refine t_i2c 85 (r := (own_ch p2)) X0.here hx hby at_84 (own_c2d (own_m16a p2) (own_m16b p2)) rfl ?_
 refine t_istore (pc' := 87) (L' := #[vi p0, vi p1, vi p2, vi p3, vi 2, vi ((own_ch p1)), vi ((own_ch p2)), .unset, .unset, .unset, .unset]) X0.here hx hby at_85 rfl rfl ?_
 refine t_iloadN 88 X0.here hx hby at_87 rfl rfl ?_
 refine X0.ldcInt hx hown (mvT hZ (w0 hw)) (g := (mkF m 88 #[vi p0, vi p1, vi p2, vi p3, vi 2, vi ((own_ch p1)), vi ((own_ch p2)), .unset, .unset, .unset, .unset] [(.int p3)])) rfl (hb hby at_88) _ ?_
 refine t_iand 91 (r := (own_ch p3)) X0.here hx hby at_90 (Eq.refl (own_ch p3)) rfl ?_
 refine t_i2c 92 (r := (own_ch p3)) X0.here hx hby at_91 (own_c2d (own_m16a p3) (own_m16b p3)) rfl ?_
 refine t_istore (pc' := 94) (L' := #[vi p0, vi p1, vi p2, vi p3, vi 2, vi ((own_ch p1)), vi ((own_ch p2)), vi ((own_ch p3)), .unset, .unset, .unset]) X0.here hx hby at_92 rfl rfl ?_
 refine t_iload 96 X0.here hx hby at_94 rfl rfl ?_
 refine t_iload 98 X0.here hx hby at_96 rfl rfl ?_
 refine t_iload 100 X0.here hx hby at_98 rfl rfl ?_
 refine t_iload 102 X0.here hx hby at_100 rfl rfl ?_
 refine st1 _ ?_
 refine t_astore (pc' := 107) (L' := #[vi p0, vi p1, vi p2, vi p3, vi 2, vi ((own_ch p1)), vi ((own_ch p2)), vi ((own_ch p3)), vr b4_1, .unset, .unset]) X1.here hx hby at_105 rfl rfl rfl ?_
 refine t_aload 109 X1.here hx hby at_107 rfl rfl rfl ?_
 refine st4 _ ?_
 refine t_astore (pc' := 114) (L' := #[vi p0, vi p1, vi p2, vi p3, vi 2, vi ((own_ch p1)), vi ((own_ch p2)), vi ((own_ch p3)), vr b4_1, vr st_EMPTY, .unset]) X4.here hx hby at_112 rfl rfl rfl ?_
 refine t_iload 116 X4.here hx hby at_114 rfl rfl ?_
 refine t_iload 118 X4.here hx hby at_116 rfl rfl ?_
 refine st6 _ ?_
 refine t_astore (pc' := 123) (L' := #[vi p0, vi p1, vi p2, vi p3, vi 2, vi ((own_ch p1)), vi ((own_ch p2)), vi ((own_ch p3)), vr b4_1, vr st_EMPTY, .val .null]) X6.here hx hby at_121 rfl rfl rfl ?_
 refine t_aload 125 X6.here hx hby at_123 rfl rfl rfl ?_
 refine t_ifnonnullNo 128 X6.here hx hby at_125 rfl ?_
 refine t_aload 130 X6.here hx hby at_128 rfl rfl rfl ?_
 refine st7 _ ?_
 refine t_ifNo 136 X7.here hx hby at_133 (by decide) rfl ?_
 refine t_iconst 137 (r := 1) X7.here hx hby at_136 (by decide) rfl ?_
 refine t_goto (pc := 137) 141 X7.here hx hby at_137 (by decide) (by decide) ?_
 exact retN X7 hx (t := .boolean) hret (by simp) (hb hby at_141) hr
def WS_r89_compress (Z : State) (o2 : Addr) : List (Addr × Nat) := [(o2, (0 : Int32).toNatClampNeg)]
def Q_r89_compress (Z : State) (o0 o2 : Addr) (i_1 i_2 i_3 : Int32) (k_o0 k_o2 : ClassId) (h0 : Heap) (n0 : Nat) (v : Option Value) (h : Heap) (L : List Loc) : Prop := v = some (.int 1) ∧ Fr n0 L ∧ KL h0 h (WS_r89_compress Z o2) ∧ Arv Z h o2 k_o2 .byte 3 [(.int (i_1.toInt8.toInt32)), z0, z0] z0
theorem r89_compress (l : Launch) (Z : State) (a0 : Array Value) (hw : HW Z a0) (ws : List Jvm.Cond) (o0 o2 : Addr) (i_1 i_2 i_3 : Int32) (k_o0 k_o2 : ClassId) (h0 : Heap) (n0 : Nat) (Z0 : n0 ≤ h0.size) (V_o0 : Arv Z h0 o0 k_o0 .char 3 [(.int i_1), (.int i_2), (.int i_3)] z0) (hp0 : ¬ ((255 : Int32) < i_1)) (V_o2 : Arv Z h0 o2 k_o2 .byte 3 [z0, z0, z0] z0) (g_o2 : n0 ≤ o2) (ne_o0_o2 : o0 ≠ o2) (hp1 : (255 : Int32) < i_2) :
    MF l Z y26_compress b27_ 7 (some .int) ws ⟨0, 0, 0, 0⟩ #[(.ref o0), z0, (.ref o2), z0, (.int 3)] h0 (Q_r89_compress Z o0 o2 i_1 i_2 i_3 k_o0 k_o2 h0 n0) := by
 refine own_body (plainFor_of_name pn_StringUTF16906) (ef_15 o0 (0 : Int32) o2 (0 : Int32) (3 : Int32)) (by decide) (by decide) ?_
 intro p e s m below meth c s₁ hx hby hml hown hnm hret hZ hh e0 X0
 have N0 := Fr.nil n0
 obtain ⟨T4, h4, X4, e4, W4, V4, st4⟩ := own_astB X0 hx hZ e0 V_o2 (j := 0) (by decide) 0 rfl (Nat.le_of_ble_eq_true rfl) (g := (mkF m 31 #[vr o0, vi 0, vr o2, vi 0, vi 3, vi 0, vi i_1] [(.int (i_1.toInt8.toInt32)), z0, (.ref o2)])) rfl rfl (hb hby d423)
 rw [show (nar .byte (i_1.toInt8.toInt32)) = (i_1.toInt8.toInt32) from (own_narb _)] at V4
 have K4 := KL.ofW W4
 replace V4 : Arv Z h4 o2 k_o2 .byte 3 [(.int (i_1.toInt8.toInt32)), z0, z0] z0 := V4
 have N4 := Fr.snoc X4 N0 g_o2
 have f5 := (kArv K4 V_o0 (naN (Ne.symm ne_o0_o2) na0))
 have C0 := (KL.refl h0 (WS_r89_compress Z o2)).trans K4 (naO (own_mi 0 rfl) na0)
 refine ⟨T4, _, some (.int 1), X4, (fun h => by cases h <;> rfl), ?_, fun fs hr => ?_⟩
 · show Q_r89_compress Z o0 o2 i_1 i_2 i_3 k_o0 k_o2 h0 n0 _ T4.heap _
   rw [e4]
   exact ⟨rfl, N4, C0, V4⟩
 refine t_iconst 1 (r := 0) X0.here hx hby d320 (by decide) rfl ?_
 refine t_istore (pc' := 3) (L' := #[vr o0, vi 0, vr o2, vi 0, vi 3, vi 0, .unset]) X0.here hx hby d321 rfl rfl ?_
 refine t_iload 5 X0.here hx hby d322 rfl rfl ?_
 refine t_iload 7 X0.here hx hby d323 rfl rfl ?_
 refine t_icmpNo 10 X0.here hx hby d324 (by decide) rfl ?_
 refine t_aloadN 11 X0.here hx hby d325 rfl rfl rfl ?_
 refine t_iloadN 12 X0.here hx hby d326 rfl rfl ?_
 refine own_aldC (pc' := 13) X0 hx hZ e0 V_o0 (j := 0) (v := (.int i_1)) (by decide) rfl (hb hby d327) rfl ?_
 refine t_istore (pc' := 15) (L' := #[vr o0, vi 0, vr o2, vi 0, vi 3, vi 0, vi i_1]) X0.here hx hby d328 rfl rfl ?_
 refine t_iload 17 X0.here hx hby d329 rfl rfl ?_
 refine t_sipush 20 (r := 255) X0.here hx hby d330 (by decide) rfl ?_
 refine t_icmpYes (pc := 20) 26 X0.here hx hby d331 (flt hp0).2.2.2 (by decide) (by decide) ?_
 refine t_aloadN 27 X0.here hx hby d419 rfl rfl rfl ?_
 refine t_iloadN 28 X0.here hx hby d420 rfl rfl ?_
 refine t_iload 30 X0.here hx hby d421 rfl rfl ?_
 refine t_i2b 31 X0.here hx hby d422 rfl rfl ?_
 refine st4 _ ?_
 refine t_iinc (pc' := 35) (L' := #[vr o0, vi 1, vr o2, vi 0, vi 3, vi 0, vi i_1]) X4.here hx hby d424 rfl (by first | rfl | decide) rfl ?_
 refine t_iinc (pc' := 38) (L' := #[vr o0, vi 1, vr o2, vi 1, vi 3, vi 0, vi i_1]) X4.here hx hby d425 rfl (by first | rfl | decide) rfl ?_
 refine t_iinc (pc' := 41) (L' := #[vr o0, vi 1, vr o2, vi 1, vi 3, vi 1, vi i_1]) X4.here hx hby d426 rfl (by first | rfl | decide) rfl ?_
 refine t_goto (pc := 41) 3 X4.here hx hby d427 (by decide) (by decide) ?_
 refine t_iload 5 X4.here hx hby d322 rfl rfl ?_
 refine t_iload 7 X4.here hx hby d323 rfl rfl ?_
 refine t_icmpNo 10 X4.here hx hby d324 (by decide) rfl ?_
 refine t_aloadN 11 X4.here hx hby d325 rfl rfl rfl ?_
 refine t_iloadN 12 X4.here hx hby d326 rfl rfl ?_
 refine own_aldC (pc' := 13) X4 hx hZ e4 f5 (j := 1) (v := (.int i_2)) (by decide) rfl (hb hby d327) rfl ?_
 refine t_istore (pc' := 15) (L' := #[vr o0, vi 1, vr o2, vi 1, vi 3, vi 1, vi i_2]) X4.here hx hby d328 rfl rfl ?_
 refine t_iload 17 X4.here hx hby d329 rfl rfl ?_
 refine t_sipush 20 (r := 255) X4.here hx hby d330 (by decide) rfl ?_
 refine t_icmpNo 23 X4.here hx hby d331 (tlt hp1).2.2.2 rfl ?_
 refine t_iload 25 X4.here hx hby d332 rfl rfl ?_
 exact retI X4 hx hret (hb hby d333) hr
def Q_r90_getChar (Z : State) (o0 : Addr) (i_2 i_3 i_4 i_5 i_6 i_7 : Int32) (k_o0 : ClassId) (h0 : Heap) (n0 : Nat) (v : Option Value) (h : Heap) (L : List Loc) : Prop := v = some (.int (own_chr i_4 i_5)) ∧ Fr n0 L ∧ h = h0
theorem r90_getChar (l : Launch) (Z : State) (a0 : Array Value) (hw : HW Z a0) (ws : List Jvm.Cond) (o0 : Addr) (i_2 i_3 i_4 i_5 i_6 i_7 : Int32) (k_o0 : ClassId) (h0 : Heap) (n0 : Nat) (Z0 : n0 ≤ h0.size) (S__assertionsDisabled : Sa5 Z (.int 1)) (O0 : Old Z n0 h0) (V_o0 : Arv Z h0 o0 k_o0 .byte 6 [(.int i_2), (.int i_3), (.int i_4), (.int i_5), (.int i_6), (.int i_7)] z0) (S_HI_BYTE_SHIFT : Sa6 Z z0) (S_LO_BYTE_SHIFT : Sa7 Z (.int 8)) :
    MF l Z y24_getChar b25_ 2 (some .char) ws ⟨0, 0, 0, 0⟩ #[(.ref o0), (.int 1)] h0 (Q_r90_getChar Z o0 i_2 i_3 i_4 i_5 i_6 i_7 k_o0 h0 n0) := by
 refine own_body (plainFor_of_name pn_StringUTF16906) (ef_4 o0 (1 : Int32)) (by decide) (by decide) ?_
 intro p e s m below meth c s₁ hx hby hml hown hnm hret hZ hh e0 X0
 have N0 := Fr.nil n0
 obtain ⟨T1, X1, e1, st1⟩ := getS2 X0 hx hZ hown (host := "") (Or.inl (w81 hw)) Via.refl e0 (Sta.ext O0.2 S__assertionsDisabled) (g := (mkF m 0 #[vr o0, vi 1] [])) rfl (hb hby d263)
 obtain ⟨T8, X8, e8, st8⟩ := getS2 X1 hx hZ hown (host := "") (Or.inl (w82 hw)) Via.refl e1 (Sta.ext O0.2 S_HI_BYTE_SHIFT) (g := (mkF m 42 #[vr o0, vi 3] [(.int (i_4 &&& (255 : Int32)))])) rfl (hb hby d275)
 obtain ⟨T9, X9, e9, st9⟩ := getS2 X8 hx hZ hown (host := "") (Or.inl (w83 hw)) Via.refl e8 (Sta.ext O0.2 S_LO_BYTE_SHIFT) (g := (mkF m 53 #[vr o0, vi 3] [(.int (i_5 &&& (255 : Int32))), (.int (i_4 &&& (255 : Int32)))])) rfl (hb hby d282)
 refine ⟨T9, _, some (.int (own_chr i_4 i_5)), X9, (fun h => by cases h <;> rfl), ?_, fun fs hr => ?_⟩
 · show Q_r90_getChar Z o0 i_2 i_3 i_4 i_5 i_6 i_7 k_o0 h0 n0 _ T9.heap _
   rw [e9]
   exact ⟨rfl, N0, rfl⟩
 rw [← (show (nar .char (own_chr i_4 i_5)) = (own_chr i_4 i_5) from (own_chrC _ _))] at hr
 refine st1 _ ?_
 refine t_ifYes (pc := 3) 28 X1.here hx hby d264 (by decide) (by decide) (by decide) ?_
 refine t_iloadN 29 X1.here hx hby d265 rfl rfl ?_
 refine t_iconst 30 (r := 1) X1.here hx hby d266 (by decide) rfl ?_
 refine t_ishl 31 (r := 2) X1.here hx hby d267 (by decide : ((1 : Int32) <<< ((1 : Int32) &&& 31)) = (2 : Int32)) rfl ?_
 refine t_istoreN (pc' := 32) (L' := #[vr o0, vi 2]) X1.here hx hby d268 rfl rfl ?_
 refine t_aloadN 33 X1.here hx hby d269 rfl rfl rfl ?_
 refine t_iloadN 34 X1.here hx hby d270 rfl rfl ?_
 refine t_iinc (pc' := 37) (L' := #[vr o0, vi 3]) X1.here hx hby d271 rfl (by first | rfl | decide) rfl ?_
 refine own_aldB (pc' := 38) X1 hx hZ e1 V_o0 (j := 2) (v := (.int i_4)) (by decide) rfl (hb hby d272) rfl ?_
 refine t_sipush 41 (r := 255) X1.here hx hby d273 (by decide) rfl ?_
 refine t_iand 42 X1.here hx hby d274 rfl rfl ?_
 refine st8 _ ?_
 refine t_ishl 46 (r := (i_4 &&& (255 : Int32))) X8.here hx hby d276 (own_shl0 _) rfl ?_
 refine t_aloadN 47 X8.here hx hby d277 rfl rfl rfl ?_
 refine t_iloadN 48 X8.here hx hby d278 rfl rfl ?_
 refine own_aldB (pc' := 49) X8 hx hZ e8 V_o0 (j := 3) (v := (.int i_5)) (by decide) rfl (hb hby d279) rfl ?_
 refine t_sipush 52 (r := 255) X8.here hx hby d280 (by decide) rfl ?_
 refine t_iand 53 X8.here hx hby d281 rfl rfl ?_
 refine st9 _ ?_
 refine t_ishl 57 X9.here hx hby d283 rfl rfl ?_
 refine t_ior 58 (r := (own_chr i_4 i_5)) X9.here hx hby d284 (Eq.refl (own_chr i_4 i_5)) rfl ?_
 refine t_i2c 59 (r := (own_chr i_4 i_5)) X9.here hx hby d285 (own_chrC _ _) rfl ?_
 exact retN X9 hx (t := .char) hret (by simp) (hb hby d286) hr
def Q_r88_compress (Z : State) (o0 : Addr) (i_2 i_3 i_4 : Int32) (k_o0 : ClassId) (h0 : Heap) (n0 : Nat) (v : Option Value) (h : Heap) (L : List Loc) : Prop := ∃ b2_1_9 : Addr, ∃ k2_1_9 : ClassId, v = some (.ref b2_1_9) ∧ Fr n0 L ∧ KL h0 h [] ∧ h0.size ≤ b2_1_9 ∧ Arv Z h b2_1_9 k2_1_9 .byte 6 [(.int (i_2.toInt8.toInt32)), (.int ((i_2 >>> ((8 : Int32) &&& 31)).toInt8.toInt32)), (.int (i_3.toInt8.toInt32)), (.int ((i_3 >>> ((8 : Int32) &&& 31)).toInt8.toInt32)), (.int (i_4.toInt8.toInt32)), (.int ((i_4 >>> ((8 : Int32) &&& 31)).toInt8.toInt32))] z0
theorem r88_compress (l : Launch) (Z : State) (a0 : Array Value) (hw : HW Z a0) (ws : List Jvm.Cond) (o0 : Addr) (i_2 i_3 i_4 : Int32) (k_o0 : ClassId) (h0 : Heap) (n0 : Nat) (Z0 : n0 ≤ h0.size) (V_o0 : Arv Z h0 o0 k_o0 .char 3 [(.int i_2), (.int i_3), (.int i_4)] z0) (hp0 : ¬ ((255 : Int32) < i_2)) (hp1 : (255 : Int32) < i_3) (S__assertionsDisabled : Sa5 Z (.int 1)) (S_HI_BYTE_SHIFT : Sa6 Z z0) (S_LO_BYTE_SHIFT : Sa7 Z (.int 8)) (O0 : Old Z n0 h0) (hp2 : ¬ (i_3 < (0 : Int32))) (hp3 : ¬ ((65535 : Int32) < i_3)) :
    MF l Z y30_compress b26_ 6 (some (.array .byte)) ws ⟨3, 2, 9, 40⟩ #[(.ref o0), z0, (.int 3)] h0 (Q_r88_compress Z o0 i_2 i_3 i_4 k_o0 h0 n0) := by
 refine own_body (plainFor_of_name pn_StringUTF16906) (ef_17 o0 (0 : Int32) (3 : Int32)) (by decide) (by decide) ?_
 intro p e s m below meth c s₁ hx hby hml hown hnm hret hZ hh e0 X0
 have N0 := Fr.nil n0
 obtain ⟨T1, h1, k1, X1, e1, E1, A1, st1⟩ := newP (aty := .byte) X0 hx hZ (w20 hw) e0 (g := (mkF m 1 #[vr o0, vi 0, vi 3, .unset, .unset, .unset] [(.int 3)])) rfl (hb hby d312) rfl (by decide) (cap := 3) (by decide) (by decide) (by decide) (by decide)
 obtain ⟨b1, g1⟩ : ∃ z, z = h0.size := ⟨_, rfl⟩
 rw [← g1] at A1 st1
 have ge_b1 : h0.size ≤ b1 := Nat.le_of_eq g1.symm
 have K1 := KL.ofE E1
 have V1 : Arv Z h1 b1 k1 .byte 3 [z0, z0, z0] z0 := (Arv.new A1 (by decide)).pad (pad_rep [] z0 3)
 have f6 := (kArv K1 V_o0 na0)
 have gg7 := Nat.le_trans Z0 ge_b1
 have lt_o0 : o0 < h0.size := Arv.lt V_o0
 have ne8 := lt_ne lt_o0 ge_b1
 obtain ⟨_, T5, L5, X5, hQ5, st5⟩ := own_static X1 hx hZ hown (w62 hw) (w63 hw) (w60 hw) (w64 hw) (by decide) (r89_compress l Z a0 hw [] o0 b1 i_2 i_3 i_4 k_o0 k1 h1 n0 (Nat.le_trans Z0 K1.1) f6 hp0 V1 gg7 ne8 hp1) e1 (W := 0) (by decide) (g := (mkF m 9 #[vr o0, vi 0, vi 3, vr b1, .unset, .unset] [(.int 3), z0, (.ref b1), z0, (.ref o0)])) rfl hml.symm (argsL := [(.ref o0), z0, (.ref b1), z0, (.int 3)]) (rest := []) (lenOf pd_22 rfl) rfl rfl (own_wr rfl rfl) (hb hby d319)
 obtain ⟨rfl, N5q, K5, Q5_0⟩ := hQ5
 have N5 := Fr.app N0 N5q
 have f10 := (kArv K5 f6 (naN (Ne.symm ne8) na0))
 have f11 := (kOld K5 (kOld K1 O0 na0) (naG gg7 na0))
 have sz_0_2 := (Nat.le_trans K1.1 K5.1)
 obtain ⟨_, T9, L9, X9, hQ9, st9⟩ := own_static X5 hx hZ hown (w68 hw) (w69 hw) (w60 hw) (w70 hw) (by decide) (r60_toBytes l Z a0 hw [] o0 i_2 i_3 i_4 k_o0 T5.heap n0 (Nat.le_trans Z0 sz_0_2) f10 S__assertionsDisabled S_HI_BYTE_SHIFT S_LO_BYTE_SHIFT f11) rfl (W := 0) (by decide) (g := (mkF m 23 #[vr o0, vi 0, vi 3, vr b1, vi 1, .unset] [(.int 3), z0, (.ref o0)])) rfl hml.symm (argsL := [(.ref o0), z0, (.int 3)]) (rest := []) (lenOf pd_25 rfl) rfl rfl (own_wr rfl rfl) (hb hby d341)
 obtain ⟨b2_1_9, k2_1_9, rfl, N9q, K9, Q9_0, Q9_1⟩ := hQ9
 have N9 := Fr.app N5 N9q
 have f14 := (kOld K9 f11 na0)
 have sz_0_3 := (Nat.le_trans sz_0_2 K9.1)
 obtain ⟨_, T13, L13, X13, hQ13, st13⟩ := own_static X9 hx hZ hown (w84 hw) (w85 hw) (w60 hw) (w86 hw) (by decide) (r90_getChar l Z a0 hw [] b2_1_9 (i_2.toInt8.toInt32) ((i_2 >>> ((8 : Int32) &&& 31)).toInt8.toInt32) (i_3.toInt8.toInt32) ((i_3 >>> ((8 : Int32) &&& 31)).toInt8.toInt32) (i_4.toInt8.toInt32) ((i_4 >>> ((8 : Int32) &&& 31)).toInt8.toInt32) k2_1_9 T9.heap n0 (Nat.le_trans Z0 sz_0_3) S__assertionsDisabled f14 Q9_1 S_HI_BYTE_SHIFT S_LO_BYTE_SHIFT) rfl (W := 0) (by decide) (g := (mkF m 32 #[vr o0, vi 0, vi 3, vr b1, vi 1, vr b2_1_9] [(.int 1), (.ref b2_1_9)])) rfl hml.symm (argsL := [(.ref b2_1_9), (.int 1)]) (rest := []) (lenOf pd_5 rfl) rfl rfl (own_wr rfl rfl) (hb hby d377)
 obtain ⟨rfl, N13q, e13⟩ := hQ13
 have N13 := Fr.app N9 N13q
 have C0 := (KL.refl h0 []).trans K1 na0
 have C1 := C0.trans K5 (naO (Or.inr ge_b1) na0)
 have C2 := C1.trans K9 na0
 refine ⟨T13, _, some (.ref b2_1_9), X13, (fun h => by cases h <;> rfl), ?_, fun fs hr => ?_⟩
 · show Q_r88_compress Z o0 i_2 i_3 i_4 k_o0 h0 n0 _ T13.heap _
   rw [e13]
   exact ⟨b2_1_9, k2_1_9, rfl, N13, C2, (Nat.le_trans sz_0_2 Q9_0), Q9_1⟩
 refine t_iloadN 1 X0.here hx hby d311 rfl rfl ?_
 refine st1 _ ?_
 refine t_astoreN (pc' := 4) (L' := #[vr o0, vi 0, vi 3, vr b1, .unset, .unset]) X1.here hx hby d313 rfl rfl rfl ?_
 refine t_aloadN 5 X1.here hx hby d314 rfl rfl rfl ?_
 refine t_iloadN 6 X1.here hx hby d315 rfl rfl ?_
 refine t_aloadN 7 X1.here hx hby d316 rfl rfl rfl ?_
 refine t_iconst 8 (r := 0) X1.here hx hby d317 (by decide) rfl ?_
 refine t_iloadN 9 X1.here hx hby d318 rfl rfl ?_
 refine st5 _ ?_
 refine t_istore (pc' := 14) (L' := #[vr o0, vi 0, vi 3, vr b1, vi 1, .unset]) X5.here hx hby d334 rfl rfl ?_
 refine t_iload 16 X5.here hx hby d335 rfl rfl ?_
 refine t_iloadN 17 X5.here hx hby d336 rfl rfl ?_
 refine t_icmpNo 20 X5.here hx hby d337 (by decide) rfl ?_
 refine t_aloadN 21 X5.here hx hby d338 rfl rfl rfl ?_
 refine t_iloadN 22 X5.here hx hby d339 rfl rfl ?_
 refine t_iloadN 23 X5.here hx hby d340 rfl rfl ?_
 refine st9 _ ?_
 refine t_astore (pc' := 28) (L' := #[vr o0, vi 0, vi 3, vr b1, vi 1, vr b2_1_9]) X9.here hx hby d374 rfl rfl rfl ?_
 refine t_aload 30 X9.here hx hby d375 rfl rfl rfl ?_
 refine t_iload 32 X9.here hx hby d376 rfl rfl ?_
 refine st13 _ ?_
 refine castTop (g' := (mkF m 35 #[vr o0, vi 0, vi 3, vr b1, vi 1, vr b2_1_9] [(.int i_3)])) (congrArg (fun z => mkF m 35 #[vr o0, vi 0, vi 3, vr b1, vi 1, vr b2_1_9] (Value.int z :: [])) (own_chrE hp2 hp3)) ?_
 refine t_sipush 38 (r := 255) X13.here hx hby d378 (by decide) rfl ?_
 refine t_icmpYes (pc := 38) 54 X13.here hx hby d379 (tlt hp1).2.2.1 (by decide) (by decide) ?_
 refine t_aload 56 X13.here hx hby d380 rfl rfl rfl ?_
 jvm_step X13.here [X13.here.top, hx, (hb hby d381), X13.method', hret, Value.isRef, FieldType.isReference]
 first | (intro acts; rw [hr _ acts rfl rfl rfl]) | rw [hr _ _ rfl rfl rfl]
 exact Steps.refl _
def WS_r87__init_ (Z : State) (o0 : Addr) : List (Addr × Nat) := [(o0, (sl1 Z)), (o0, (sl0 Z))]
def Q_r87__init_ (Z : State) (o0 o1 : Addr) (i_2 i_4 i_5 i_6 : Int32) (k_o1 : ClassId) (h0 : Heap) (n0 : Nat) (v : Option Value) (h : Heap) (L : List Loc) : Prop := ∃ b2_1_9_7 : Addr, ∃ k2_1_9_7 : ClassId, v = none ∧ Fr n0 L ∧ KL h0 h (WS_r87__init_ Z o0) ∧ h0.size ≤ b2_1_9_7 ∧ Fd1 Z h o0 (.int 1) ∧ Fd0 Z h o0 (.ref b2_1_9_7) ∧ Arv Z h b2_1_9_7 k2_1_9_7 .byte 6 [(.int (i_4.toInt8.toInt32)), (.int ((i_4 >>> ((8 : Int32) &&& 31)).toInt8.toInt32)), (.int (i_5.toInt8.toInt32)), (.int ((i_5 >>> ((8 : Int32) &&& 31)).toInt8.toInt32)), (.int (i_6.toInt8.toInt32)), (.int ((i_6 >>> ((8 : Int32) &&& 31)).toInt8.toInt32))] z0
theorem r87__init_ (l : Launch) (Z : State) (a0 : Array Value) (hw : HW Z a0) (ws : List Jvm.Cond) (o0 o1 : Addr) (i_2 i_4 i_5 i_6 : Int32) (k_o1 : ClassId) (h0 : Heap) (n0 : Nat) (Z0 : n0 ≤ h0.size) (sCS : SCS Z i_2) (O0 : Old Z n0 h0) (hp0 : ¬ (i_2 = (0 : Int32))) (V_o1 : Arv Z h0 o1 k_o1 .char 3 [(.int i_4), (.int i_5), (.int i_6)] z0) (S__assertionsDisabled : Sa5 Z (.int 1)) (S_HI_BYTE_SHIFT : Sa6 Z z0) (S_LO_BYTE_SHIFT : Sa7 Z (.int 8)) (hp1 : ¬ ((255 : Int32) < i_4)) (hp2 : (255 : Int32) < i_5) (hp3 : ¬ (i_5 < (0 : Int32))) (hp4 : ¬ ((65535 : Int32) < i_5)) (F_o0_coder : Fd1 Z h0 o0 z0) (E_o0 : Ex0 Z h0 o0) (g_o0 : n0 ≤ o0) (F_o0_value : Fd0 Z h0 o0 .null) :
    MF l Z y11__init_ b13_ 6 none ws ⟨4, 2, 9, 57⟩ #[(.ref o0), (.ref o1), z0, (.int 3), .null] h0 (Q_r87__init_ Z o0 o1 i_2 i_4 i_5 i_6 k_o1 h0 n0) := by
 refine own_body (plainFor_of_name pn_String564) (ef_7 o0 o1 (0 : Int32) (3 : Int32)) (by decide) (by decide) ?_
 intro p e s m below meth c s₁ hx hby hml hown hnm hret hZ hh e0 X0
 have N0 := Fr.nil n0
 obtain ⟨T1, X1, e1, st1⟩ := initO X0 hx hZ hown (w16 hw) (w17 hw) (w18 hw) e0 (g := (mkF m 1 #[vr o0, vr o1, vi 0, vi 3, .val .null, .unset] [(.ref o0)])) rfl hml.symm rfl (hb hby d128) (by decide) (W := 0) (own_wr rfl rfl) (by decide)
 obtain ⟨T3, X3, e3, st3⟩ := getS2 X1 hx hZ hown (host := "") (Or.inl (w41 hw)) Via.refl e1 (Sta.ext O0.2 sCS) (g := (mkF m 27 #[vr o0, vr o1, vi 0, vi 3, .val .null, .unset] [])) rfl (hb hby d305)
 obtain ⟨_, T7, L7, X7, hQ7, st7⟩ := own_static X3 hx hZ hown (w58 hw) (w59 hw) (w60 hw) (w61 hw) (by decide) (r88_compress l Z a0 hw [] o1 i_4 i_5 i_6 k_o1 h0 n0 Z0 V_o1 hp1 hp2 S__assertionsDisabled S_HI_BYTE_SHIFT S_LO_BYTE_SHIFT O0 hp3 hp4) e3 (W := 0) (by decide) (g := (mkF m 36 #[vr o0, vr o1, vi 0, vi 3, .val .null, .unset] [(.int 3), z0, (.ref o1)])) rfl hml.symm (argsL := [(.ref o1), z0, (.int 3)]) (rest := []) (lenOf pd_25 rfl) rfl rfl (own_wr rfl rfl) (hb hby d310)
 obtain ⟨b2_1_9_7, k2_1_9_7, rfl, N7q, K7, Q7_0, Q7_1⟩ := hQ7
 have N7 := Fr.app N0 N7q
 obtain ⟨_, T9, L9, X9, hQ9, st9⟩ := own_static X7 hx hZ hown (w65 hw) (w66 hw) (w60 hw) (w67 hw) (by decide) (r67_coderFromArrayLen l Z a0 hw [] b2_1_9_7 (i_4.toInt8.toInt32) ((i_4 >>> ((8 : Int32) &&& 31)).toInt8.toInt32) (i_5.toInt8.toInt32) ((i_5 >>> ((8 : Int32) &&& 31)).toInt8.toInt32) (i_6.toInt8.toInt32) ((i_6 >>> ((8 : Int32) &&& 31)).toInt8.toInt32) k2_1_9_7 T7.heap n0 (Nat.le_trans Z0 K7.1) Q7_1) rfl (W := 1) (by decide) (g := (mkF m 45 #[vr o0, vr o1, vi 0, vi 3, .val .null, vr b2_1_9_7] [(.int 3), (.ref b2_1_9_7), (.ref o0)])) rfl hml.symm (argsL := [(.ref b2_1_9_7), (.int 3)]) (rest := [(.ref o0)]) (lenOf pd_26 rfl) rfl rfl (own_wr rfl rfl) (hb hby d386)
 obtain ⟨rfl, N9q, e9⟩ := hQ9
 have N9 := Fr.app N7 N9q
 have f10 := (kFld K7 F_o0_coder nw0)
 have f11 := (kExa K7 E_o0)
 obtain ⟨T12, h12, X12, e12, W12, st12⟩ := putF X9 hx hZ hown (host := "") (Or.inl (w26 hw)) Via.refl e9 f10 f11 (Or.inr ⟨(w22 hw), rfl, hnm⟩) (w6 hw) (ty := .byte) (by decide) (by decide) (by decide) (g := (mkF m 48 #[vr o0, vr o1, vi 0, vi 3, .val .null, vr b2_1_9_7] [(.int 1), (.ref o0)])) rfl rfl (hb hby d395)
 have K12 := KL.ofW W12
 have Fw12 : Fd1 Z h12 o0 (.int 1) := Fld.same W12 f10
 have N12 := Fr.snoc X12 N9 g_o0
 have f13 := (kFld K12 (kFld K7 F_o0_value nw0) (nwR (sn_1 hw) nw0))
 have f14 := (kExa K12 f11)
 obtain ⟨T15, h15, X15, e15, W15, st15⟩ := putF X12 hx hZ hown (host := "") (Or.inl (w25 hw)) Via.refl e12 f13 f14 (Or.inr ⟨(w21 hw), rfl, hnm⟩) (w6 hw) (ty := (.array .byte)) (by decide) rfl rfl (g := (mkF m 54 #[vr o0, vr o1, vi 0, vi 3, .val .null, vr b2_1_9_7] [(.ref b2_1_9_7), (.ref o0)])) rfl rfl (hb hby d398)
 have K15 := KL.ofW W15
 have Fw15 : Fd0 Z h15 o0 (.ref b2_1_9_7) := Fld.same W15 f13
 have N15 := Fr.snoc X15 N12 g_o0
 have C0 := (KL.refl h0 (WS_r87__init_ Z o0)).trans K7 na0
 have C1 := C0.trans K12 (naO (own_mi 0 rfl) na0)
 have C2 := C1.trans K15 (naO (own_mi 1 rfl) na0)
 have f16 := (kFld K15 Fw12 (nwR (sn_0 hw) nw0))
 have lt_o0 : o0 < h0.size := Fld.lt F_o0_coder
 have ne17 := lt_ne lt_o0 Q7_0
 have f18 := (kArv K15 (kArv K12 Q7_1 (naN ne17 na0)) (naN ne17 na0))
 refine ⟨T15, _, none, X15, (fun h => by cases h <;> rfl), ?_, fun fs hr => ?_⟩
 · show Q_r87__init_ Z o0 o1 i_2 i_4 i_5 i_6 k_o1 h0 n0 _ T15.heap _
   rw [e15]
   exact ⟨b2_1_9_7, k2_1_9_7, rfl, N15, C2, Q7_0, f16, Fw15, f18⟩
 refine t_aloadN 1 X0.here hx hby d127 rfl rfl rfl ?_
 refine st1 _ ?_
 refine t_iloadN 5 X1.here hx hby d129 rfl rfl ?_
 refine t_ifYes (pc := 5) 27 X1.here hx hby d130 (by decide) (by decide) (by decide) ?_
 refine st3 _ ?_
 refine t_ifNo 33 X3.here hx hby d306 ((if0 _ _).trans (feq hp0).1) rfl ?_
 refine t_aloadN 34 X3.here hx hby d307 rfl rfl rfl ?_
 refine t_iloadN 35 X3.here hx hby d308 rfl rfl ?_
 refine t_iloadN 36 X3.here hx hby d309 rfl rfl ?_
 refine st7 _ ?_
 refine t_astore (pc' := 41) (L' := #[vr o0, vr o1, vi 0, vi 3, .val .null, vr b2_1_9_7]) X7.here hx hby d382 rfl rfl rfl ?_
 refine t_aloadN 42 X7.here hx hby d383 rfl rfl rfl ?_
 refine t_aload 44 X7.here hx hby d384 rfl rfl rfl ?_
 refine t_iloadN 45 X7.here hx hby d385 rfl rfl ?_
 refine st9 _ ?_
 refine st12 _ ?_
 refine t_aloadN 52 X12.here hx hby d396 rfl rfl rfl ?_
 refine t_aload 54 X12.here hx hby d397 rfl rfl rfl ?_
 refine st15 _ ?_
 exact X15.returnOut hx hret (hb hby d399) hr
def WS_r86__init_ (Z : State) (o0 : Addr) : List (Addr × Nat) := [(o0, (sl1 Z)), (o0, (sl0 Z))]
def Q_r86__init_ (Z : State) (o0 o1 : Addr) (i_1 i_2 i_3 : Int32) (k_o1 : ClassId) (i_4 : Int32) (h0 : Heap) (n0 : Nat) (v : Option Value) (h : Heap) (L : List Loc) : Prop := ∃ b2_1_9_7_5 : Addr, ∃ k2_1_9_7_5 : ClassId, v = none ∧ Fr n0 L ∧ KL h0 h (WS_r86__init_ Z o0) ∧ h0.size ≤ b2_1_9_7_5 ∧ Fd1 Z h o0 (.int 1) ∧ Fd0 Z h o0 (.ref b2_1_9_7_5) ∧ Arv Z h b2_1_9_7_5 k2_1_9_7_5 .byte 6 [(.int (i_1.toInt8.toInt32)), (.int ((i_1 >>> ((8 : Int32) &&& 31)).toInt8.toInt32)), (.int (i_2.toInt8.toInt32)), (.int ((i_2 >>> ((8 : Int32) &&& 31)).toInt8.toInt32)), (.int (i_3.toInt8.toInt32)), (.int ((i_3 >>> ((8 : Int32) &&& 31)).toInt8.toInt32))] z0
theorem r86__init_ (l : Launch) (Z : State) (a0 : Array Value) (hw : HW Z a0) (ws : List Jvm.Cond) (o0 o1 : Addr) (i_1 i_2 i_3 : Int32) (k_o1 : ClassId) (i_4 : Int32) (h0 : Heap) (n0 : Nat) (Z0 : n0 ≤ h0.size) (V_o1 : Arv Z h0 o1 k_o1 .char 3 [(.int i_1), (.int i_2), (.int i_3)] z0) (sCS : SCS Z i_4) (S__assertionsDisabled : Sa5 Z (.int 1)) (S_HI_BYTE_SHIFT : Sa6 Z z0) (S_LO_BYTE_SHIFT : Sa7 Z (.int 8)) (F_o0_coder : Fd1 Z h0 o0 z0) (E_o0 : Ex0 Z h0 o0) (F_o0_value : Fd0 Z h0 o0 .null) (O0 : Old Z n0 h0) (hp0 : ¬ (i_4 = (0 : Int32))) (hp1 : ¬ ((255 : Int32) < i_1)) (hp2 : (255 : Int32) < i_2) (hp3 : ¬ (i_2 < (0 : Int32))) (hp4 : ¬ ((65535 : Int32) < i_2)) (g_o0 : n0 ≤ o0) :
    MF l Z y12__init_ b12_ 2 none ws ⟨5, 2, 9, 74⟩ #[(.ref o0), (.ref o1)] h0 (Q_r86__init_ Z o0 o1 i_1 i_2 i_3 k_o1 i_4 h0 n0) := by
 refine own_body (plainFor_of_name pn_String564) (ef_5 o0 o1) (by decide) (by decide) ?_
 intro p e s m below meth c s₁ hx hby hml hown hnm hret hZ hh e0 X0
 have N0 := Fr.nil n0
 obtain ⟨_, T5, L5, X5, hQ5, st5⟩ := own_init X0 hx hZ rfl hown (w12 hw) (w13 hw) (w7 hw) (w15 hw) (by decide) (r87__init_ l Z a0 hw [] o0 o1 i_4 i_1 i_2 i_3 k_o1 h0 n0 Z0 sCS O0 hp0 V_o1 S__assertionsDisabled S_HI_BYTE_SHIFT S_LO_BYTE_SHIFT hp1 hp2 hp3 hp4 F_o0_coder E_o0 g_o0 F_o0_value) e0 (W := 0) (by decide) (g := (mkF m 6 #[vr o0, vr o1] [.null, (.int 3), z0, (.ref o1), (.ref o0)])) rfl hml.symm (argsL := [(.ref o1), z0, (.int 3), .null]) (rest := []) (lenOf pd_9 rfl) rfl rfl (own_wr rfl rfl) (hb hby d126)
 obtain ⟨b2_1_9_7_5, k2_1_9_7_5, rfl, N5q, K5, Q5_0, Q5_1, Q5_2, Q5_3⟩ := hQ5
 have N5 := Fr.app N0 N5q
 have C0 := (KL.refl h0 (WS_r86__init_ Z o0)).trans K5 (naO (own_mi 0 rfl) (naO (own_mi 1 rfl) na0))
 refine ⟨T5, _, none, X5, (fun h => by cases h <;> rfl), ?_, fun fs hr => ?_⟩
 · show Q_r86__init_ Z o0 o1 i_1 i_2 i_3 k_o1 i_4 h0 n0 _ T5.heap _
   exact ⟨b2_1_9_7_5, k2_1_9_7_5, rfl, N5, C0, Q5_0, Q5_1, Q5_2, Q5_3⟩
 refine t_aloadN 1 X0.here hx hby d120 rfl rfl rfl ?_
 refine t_aloadN 2 X0.here hx hby d121 rfl rfl rfl ?_
 refine t_iconst 3 (r := 0) X0.here hx hby d122 (by decide) rfl ?_
 refine t_aloadN 4 X0.here hx hby d123 rfl rfl rfl ?_
 refine own_arlen (pc' := 5) X0 hx hZ e0 V_o1 (hb hby d124) rfl ?_
 refine t_aconst_null 6 X0.here hx hby d125 rfl ?_
 refine st5 _ ?_
 exact X5.returnOut hx hret (hb hby d140) hr
def Q_r85_make (Z : State) (i_1 i_2 i_3 i_10 : Int32) (h0 : Heap) (n0 : Nat) (v : Option Value) (h : Heap) (L : List Loc) : Prop := ∃ b4 : Addr, ∃ b2_1_9_7_5_11 : Addr, ∃ k2_1_9_7_5_11 : ClassId, v = some (.ref b4) ∧ Fr n0 L ∧ KL h0 h [] ∧ h0.size ≤ b4 ∧ h0.size ≤ b2_1_9_7_5_11 ∧ b4 ≠ b2_1_9_7_5_11 ∧ Ex0 Z h b4 ∧ Fd0 Z h b4 (.ref b2_1_9_7_5_11) ∧ Fd1 Z h b4 (.int 1) ∧ Arv Z h b2_1_9_7_5_11 k2_1_9_7_5_11 .byte 6 [(.int (i_1.toInt8.toInt32)), (.int ((i_1 >>> ((8 : Int32) &&& 31)).toInt8.toInt32)), (.int (i_2.toInt8.toInt32)), (.int ((i_2 >>> ((8 : Int32) &&& 31)).toInt8.toInt32)), (.int (i_3.toInt8.toInt32)), (.int ((i_3 >>> ((8 : Int32) &&& 31)).toInt8.toInt32))] z0
theorem r85_make (l : Launch) (Z : State) (a0 : Array Value) (hw : HW Z a0) (ws : List Jvm.Cond) (i_1 i_2 i_3 i_10 : Int32) (h0 : Heap) (n0 : Nat) (Z0 : n0 ≤ h0.size) (hp0 : ¬ (i_1 < (0 : Int32))) (hp1 : ¬ ((65535 : Int32) < i_1)) (hp2 : ¬ (i_2 < (0 : Int32))) (hp3 : ¬ ((65535 : Int32) < i_2)) (hp4 : ¬ (i_3 < (0 : Int32))) (hp5 : ¬ ((65535 : Int32) < i_3)) (sCS : SCS Z i_10) (S__assertionsDisabled : Sa5 Z (.int 1)) (S_HI_BYTE_SHIFT : Sa6 Z z0) (S_LO_BYTE_SHIFT : Sa7 Z (.int 8)) (O0 : Old Z n0 h0) (hp6 : ¬ (i_10 = (0 : Int32))) (hp7 : ¬ ((255 : Int32) < i_1)) (hp8 : (255 : Int32) < i_2) :
    MF l Z y13_make b11_ 4 (some (.object "java/lang/String")) ws ⟨6, 4, 16, 88⟩ #[(.int 3), (.int i_1), (.int i_2), (.int i_3)] h0 (Q_r85_make Z i_1 i_2 i_3 i_10 h0 n0) := by
 refine own_body (plainFor_of_name pn_PaymentFrequencyUnitOfPinLaw855) (ef_8 (3 : Int32) i_1 i_2 i_3) (by decide) (by decide) ?_
 intro p e s m below meth c s₁ hx hby hml hown hnm hret hZ hh e0 X0
 have N0 := Fr.nil n0
 obtain ⟨T4, h4, X4, e4, E4, A4, D4, -, st4⟩ := newO X0 hx hZ hown (w5 hw) (w6 hw) (w7 hw) e0 (g := (mkF m 49 #[vi 3, vi i_1, vi i_2, vi i_3] [])) rfl (hb hby d401) (by decide) (by decide)
 obtain ⟨b4, g4⟩ : ∃ z, z = h0.size := ⟨_, rfl⟩
 rw [← g4] at A4 D4 st4
 have ge_b4 : h0.size ≤ b4 := Nat.le_of_eq g4.symm
 have K4 := KL.ofE E4
 have F_b4_value : Fd0 Z h4 b4 .null := D4 (Or.inr (w21 hw)) (ty := (.array .byte)) (by decide)
 have F_b4_coder : Fd1 Z h4 b4 z0 := D4 (Or.inr (w22 hw)) (ty := .byte) (by decide)
 obtain ⟨T5, h5, k5, X5, e5, E5, A5, st5⟩ := newP (aty := .char) X4 hx hZ (w8 hw) e4 (g := (mkF m 54 #[vi 3, vi i_1, vi i_2, vi i_3] [(.int 3), (.ref b4), (.ref b4)])) rfl (hb hby d404) rfl (by decide) (cap := 3) (by decide) (by decide) (by decide) (by decide)
 obtain ⟨b5, g5⟩ : ∃ z, z = h4.size := ⟨_, rfl⟩
 rw [← g5] at A5 st5
 have ge_b5 : h4.size ≤ b5 := Nat.le_of_eq g5.symm
 have K5 := KL.ofE E5
 have V5 : Arv Z h5 b5 k5 .char 3 [z0, z0, z0] z0 := (Arv.new A5 (by decide)).pad (pad_rep [] z0 3)
 obtain ⟨T6, h6, X6, e6, W6, V6, st6⟩ := own_astC X5 hx hZ e5 V5 (j := 0) (by decide) 0 rfl (Nat.le_of_ble_eq_true rfl) (g := (mkF m 59 #[vi 3, vi i_1, vi i_2, vi i_3] [(.int i_1), z0, (.ref b5), (.ref b5), (.ref b4), (.ref b4)])) rfl rfl (hb hby d408)
 rw [show (nar .char i_1) = i_1 from (own_c2d hp0 hp1)] at V6
 have gg7 := Nat.le_trans Z0 (Nat.le_trans K4.1 ge_b5)
 have K6 := KL.ofW W6
 replace V6 : Arv Z h6 b5 k5 .char 3 [(.int i_1), z0, z0] z0 := V6
 have N6 := Fr.snoc X6 N0 gg7
 obtain ⟨T8, h8, X8, e8, W8, V8, st8⟩ := own_astC X6 hx hZ e6 V6 (j := 1) (by decide) 1 rfl (Nat.le_of_ble_eq_true rfl) (g := (mkF m 63 #[vi 3, vi i_1, vi i_2, vi i_3] [(.int i_2), (.int 1), (.ref b5), (.ref b5), (.ref b4), (.ref b4)])) rfl rfl (hb hby d412)
 rw [show (nar .char i_2) = i_2 from (own_c2d hp2 hp3)] at V8
 have K8 := KL.ofW W8
 replace V8 : Arv Z h8 b5 k5 .char 3 [(.int i_1), (.int i_2), z0] z0 := V8
 have N8 := Fr.snoc X8 N6 gg7
 obtain ⟨T9, h9, X9, e9, W9, V9, st9⟩ := own_astC X8 hx hZ e8 V8 (j := 2) (by decide) 2 rfl (Nat.le_of_ble_eq_true rfl) (g := (mkF m 67 #[vi 3, vi i_1, vi i_2, vi i_3] [(.int i_3), (.int 2), (.ref b5), (.ref b5), (.ref b4), (.ref b4)])) rfl rfl (hb hby d416)
 rw [show (nar .char i_3) = i_3 from (own_c2d hp4 hp5)] at V9
 have K9 := KL.ofW W9
 replace V9 : Arv Z h9 b5 k5 .char 3 [(.int i_1), (.int i_2), (.int i_3)] z0 := V9
 have N9 := Fr.snoc X9 N8 gg7
 have lt_b4 : b4 < h4.size := Exa.lt A4
 have ne12 := lt_ne lt_b4 ge_b5
 have f13 := (kFld K9 (kFld K8 (kFld K6 (kFld K5 F_b4_coder nw0) (nwL ne12 nw0)) (nwL ne12 nw0)) (nwL ne12 nw0))
 have f14 := (kExa K9 (kExa K8 (kExa K6 (kExa K5 A4))))
 have f15 := (kFld K9 (kFld K8 (kFld K6 (kFld K5 F_b4_value nw0) (nwL ne12 nw0)) (nwL ne12 nw0)) (nwL ne12 nw0))
 have f16 := (kOld K9 (kOld K8 (kOld K6 (kOld K5 (kOld K4 O0 na0) na0) (naG gg7 na0)) (naG gg7 na0)) (naG gg7 na0))
 have gg17 := Nat.le_trans Z0 ge_b4
 have sz_0_2 := (Nat.le_trans K4.1 K5.1)
 have sz_0_3 := (Nat.le_trans sz_0_2 K6.1)
 have sz_0_4 := (Nat.le_trans sz_0_3 K8.1)
 have sz_0_5 := (Nat.le_trans sz_0_4 K9.1)
 obtain ⟨_, T11, L11, X11, hQ11, st11⟩ := own_init X9 hx hZ rfl hown (w9 hw) (w10 hw) (w7 hw) (w11 hw) (by decide) (r86__init_ l Z a0 hw [] b4 b5 i_1 i_2 i_3 k5 i_10 h9 n0 (Nat.le_trans Z0 sz_0_5) V9 sCS S__assertionsDisabled S_HI_BYTE_SHIFT S_LO_BYTE_SHIFT f13 f14 f15 f16 hp6 hp7 hp8 hp2 hp3 gg17) e9 (W := 1) (by decide) (g := (mkF m 68 #[vi 3, vi i_1, vi i_2, vi i_3] [(.ref b5), (.ref b4), (.ref b4)])) rfl hml.symm (argsL := [(.ref b5)]) (rest := [(.ref b4)]) (lenOf pd_10 rfl) rfl rfl (own_wr rfl rfl) (hb hby d417)
 obtain ⟨b2_1_9_7_5_11, k2_1_9_7_5_11, rfl, N11q, K11, Q11_0, Q11_1, Q11_2, Q11_3⟩ := hQ11
 have N11 := Fr.app N9 N11q
 have C0 := (KL.refl h0 []).trans K4 na0
 have C1 := C0.trans K5 na0
 have C2 := C1.trans K6 (naO (Or.inr (Nat.le_trans K4.1 ge_b5)) na0)
 have C3 := C2.trans K8 (naO (Or.inr (Nat.le_trans K4.1 ge_b5)) na0)
 have C4 := C3.trans K9 (naO (Or.inr (Nat.le_trans K4.1 ge_b5)) na0)
 have C5 := C4.trans K11 (naO (Or.inr ge_b4) (naO (Or.inr ge_b4) na0))
 have sz_1_3 := (Nat.le_trans K5.1 K6.1)
 have sz_1_4 := (Nat.le_trans sz_1_3 K8.1)
 have sz_1_5 := (Nat.le_trans sz_1_4 K9.1)
 have ne19 := lt_ne (Nat.lt_of_lt_of_le lt_b4 sz_1_5) Q11_0
 have f20 := (kExa K11 f14)
 refine ⟨T11, _, some (.ref b4), X11, (fun h => by cases h <;> rfl), ?_, fun fs hr => ?_⟩
 · show Q_r85_make Z i_1 i_2 i_3 i_10 h0 n0 _ T11.heap _
   exact ⟨b4, b2_1_9_7_5_11, k2_1_9_7_5_11, rfl, N11, C5, ge_b4, (Nat.le_trans sz_0_5 Q11_0), ne19, f20, Q11_2, Q11_1, Q11_3⟩
 refine t_iloadN 1 X0.here hx hby d113 rfl rfl ?_
 refine t_ifYes (pc := 1) 15 X0.here hx hby d114 (by decide) (by decide) (by decide) ?_
 refine t_iloadN 16 X0.here hx hby d151 rfl rfl ?_
 refine t_iconst 17 (r := 1) X0.here hx hby d152 (by decide) rfl ?_
 refine t_icmpYes (pc := 17) 25 X0.here hx hby d153 (by decide) (by decide) (by decide) ?_
 refine t_iloadN 26 X0.here hx hby d289 rfl rfl ?_
 refine t_iconst 27 (r := 2) X0.here hx hby d290 (by decide) rfl ?_
 refine t_icmpYes (pc := 27) 49 X0.here hx hby d291 (by decide) (by decide) (by decide) ?_
 refine st4 _ ?_
 refine t_dup 53 X4.here hx hby d402 rfl rfl ?_
 refine t_iconst 54 (r := 3) X4.here hx hby d403 (by decide) rfl ?_
 refine st5 _ ?_
 refine t_dup 57 X5.here hx hby d405 rfl rfl ?_
 refine t_iconst 58 (r := 0) X5.here hx hby d406 (by decide) rfl ?_
 refine t_iloadN 59 X5.here hx hby d407 rfl rfl ?_
 refine st6 _ ?_
 refine t_dup 61 X6.here hx hby d409 rfl rfl ?_
 refine t_iconst 62 (r := 1) X6.here hx hby d410 (by decide) rfl ?_
 refine t_iloadN 63 X6.here hx hby d411 rfl rfl ?_
 refine st8 _ ?_
 refine t_dup 65 X8.here hx hby d413 rfl rfl ?_
 refine t_iconst 66 (r := 2) X8.here hx hby d414 (by decide) rfl ?_
 refine t_iloadN 67 X8.here hx hby d415 rfl rfl ?_
 refine st9 _ ?_
 refine st11 _ ?_
 jvm_step X11.here [X11.here.top, hx, (hb hby d418), X11.method', hret, Value.isRef, FieldType.isReference]
 first | (intro acts; rw [hr _ acts rfl rfl rfl]) | rw [hr _ _ rfl rfl rfl]
 exact Steps.refl _
theorem law_a3_b (l : Launch) (Z : State) (a0 : Array Value) (hw : HW Z a0) (ws : List Jvm.Cond) (p0 p1 p2 p3 cs : Int32) (fm : Value) (st_EMPTY st_DAYS st_MONTHS st_YEARS : Addr) (h0 : Heap) (n0 : Nat) (Z0 : n0 ≤ h0.size) (ha : ¬ ((255 : Int32) < (own_ch p1))) (hbb : (255 : Int32) < (own_ch p2)) (hcs : ¬ (cs = (0 : Int32))) (hln : (p0 &&& (3 : Int32)) = (3 : Int32)) (hbit : (((p0.toUInt32 >>> ((2 : Int32) &&& 31).toUInt32).toInt32) &&& (1 : Int32)) = (0 : Int32)) (sCS : SCS Z cs) (S__assertionsDisabled : Sa5 Z (.int 1)) (S_HI_BYTE_SHIFT : Sa6 Z z0) (S_LO_BYTE_SHIFT : Sa7 Z (.int 8)) (O0 : Old Z n0 h0) (S_EMPTY : Sa4 Z (.ref st_EMPTY)) (E_st_EMPTY : Ex1 Z h0 st_EMPTY) (F_st_EMPTY_value : Fd2 Z h0 st_EMPTY .null) :
    LawM l Z ws p0 p1 p2 p3 h0 n0 := by
 refine own_bodyH (k := 4) (n := 16) (y := x) (Q := fun v _ L => Q_law n0 v L) (own_EW hw) (plainFor_of_name pn_PaymentFrequencyUnitOfPinLaw855) (ef_law p0 p1 p2 p3) (by decide) (by decide) ?_
 intro p e s m below meth c s₁ hx hby hml hown hnm hret hZ e0 hS0 hk0 X0 hC0 hSF0
 have N0 := Fr.nil n0
 obtain ⟨_, T1, L1, X1, hQ1, st1⟩ := own_static X0 hx hZ hown (w1 hw) (w2 hw) (w3 hw) (w4 hw) (by decide) (r85_make l Z a0 hw [] (own_ch p1) (own_ch p2) (own_ch p3) cs h0 n0 Z0 (own_m16a p1) (own_m16b p1) (own_m16a p2) (own_m16b p2) (own_m16a p3) (own_m16b p3) sCS S__assertionsDisabled S_HI_BYTE_SHIFT S_LO_BYTE_SHIFT O0 hcs ha hbb) e0 (W := 0) (by decide) (g := (mkF m 102 #[vi p0, vi p1, vi p2, vi p3, vi 3, vi ((own_ch p1)), vi ((own_ch p2)), vi ((own_ch p3)), .unset, .unset, .unset] [(.int (own_ch p3)), (.int (own_ch p2)), (.int (own_ch p1)), (.int 3)])) rfl hml.symm (argsL := [(.int 3), (.int (own_ch p1)), (.int (own_ch p2)), (.int (own_ch p3))]) (rest := []) (lenOf pd_11 rfl) rfl rfl (own_wr rfl rfl) (hb hby at_102)
 obtain ⟨b4_1, b2_1_9_7_5_11_1, k2_1_9_7_5_11_1, rfl, N1q, K1, Q1_0, Q1_1, Q1_2, Q1_3, Q1_4, Q1_5, Q1_6⟩ := hQ1
 have N1 := Fr.app N0 N1q
 have Ck0 := own_chK K1 na0 (CHr.refl hC0).1
 have Ah1 := (CHr.refl hC0).trans Ck0.1
 have f5 := (kOld K1 O0 na0)
 obtain ⟨_, T4, L4, X4, hQ4, st4⟩ := own_static X1 hx hZ hown (w27 hw) (w28 hw) (w29 hw) (w30 hw) (by decide) (r68_unitOf l Z a0 hw [] b4_1 b2_1_9_7_5_11_1 ((own_ch p1).toInt8.toInt32) (((own_ch p1) >>> ((8 : Int32) &&& 31)).toInt8.toInt32) ((own_ch p2).toInt8.toInt32) (((own_ch p2) >>> ((8 : Int32) &&& 31)).toInt8.toInt32) ((own_ch p3).toInt8.toInt32) (((own_ch p3) >>> ((8 : Int32) &&& 31)).toInt8.toInt32) k2_1_9_7_5_11_1 cs st_EMPTY T1.heap n0 (Nat.le_trans Z0 K1.1) Q1_3 Q1_4 Q1_6 sCS Q1_5 f5 hcs S_EMPTY) rfl (W := 0) (by decide) (g := (mkF m 109 #[vi p0, vi p1, vi p2, vi p3, vi 3, vi ((own_ch p1)), vi ((own_ch p2)), vi ((own_ch p3)), vr b4_1, .unset, .unset] [(.ref b4_1)])) rfl hml.symm (argsL := [(.ref b4_1)]) (rest := []) (lenOf pd_12 rfl) rfl rfl (own_wr rfl rfl) (hb hby at_109)
 obtain ⟨rfl, N4q, e4⟩ := hQ4
 have N4 := Fr.app N1 N4q
 obtain ⟨_, T6, L6, X6, hQ6, st6⟩ := own_static X4 hx hZ hown (w47 hw) (w48 hw) (w3 hw) (w49 hw) (by decide) (r70_expected l Z a0 hw [] (own_ch p1) T1.heap n0 (Nat.le_trans Z0 K1.1)) e4 (W := 0) (by decide) (g := (mkF m 118 #[vi p0, vi p1, vi p2, vi p3, vi 3, vi ((own_ch p1)), vi ((own_ch p2)), vi ((own_ch p3)), vr b4_1, vr st_EMPTY, .unset] [(.int (own_ch p1)), (.int 3)])) rfl hml.symm (argsL := [(.int 3), (.int (own_ch p1))]) (rest := []) (lenOf pd_13 rfl) rfl rfl (own_wr rfl rfl) (hb hby at_118)
 obtain ⟨rfl, N6q, e6⟩ := hQ6
 have N6 := Fr.app N4 N6q
 have f8 := (kFld K1 F_st_EMPTY_value nw0)
 have f9 := (kExa K1 E_st_EMPTY)
 obtain ⟨_, T7, L7, X7, hQ7, st7⟩ := own_virtual X6 hx hZ hown (w50 hw) (w51 hw) (nfS hZ (w53 hw)) (w53 hw) (w52 hw) (w44 hw) (w54 hw) (by decide) (r15_isPresent l Z a0 hw [] st_EMPTY T1.heap n0 (Nat.le_trans Z0 K1.1) f8) e6 f9 (W := 0) (by decide) (g := (mkF m 130 #[vi p0, vi p1, vi p2, vi p3, vi 3, vi ((own_ch p1)), vi ((own_ch p2)), vi ((own_ch p3)), vr b4_1, vr st_EMPTY, .val .null] [(.ref st_EMPTY)])) rfl hml.symm (argsL := []) (rest := []) (lenOf pd_3 rfl) rfl rfl (own_wr rfl rfl) (hb hby at_130)
 obtain ⟨rfl, N7q, e7⟩ := hQ7
 have N7 := Fr.app N6 N7q
 refine ⟨T7, _, some (.int 1), _, _, X7, hS0, (by rw [e7]; exact (Nat.le_trans hk0 K1.1)), (fun h => by cases h <;> rfl), ?_, (by rw [e7]; exact Ah1), hZ, fun fs hr => ?_⟩
 · show Q_law n0 _ _
   exact ⟨rfl, N7⟩
 refine t_iloadN 1 X0.here hx hby at_0 rfl rfl ?_
 refine t_iconst 2 (r := 3) X0.here hx hby at_1 (by decide) rfl ?_
 refine t_iand 3 (r := 3) X0.here hx hby at_2 hln rfl ?_
 refine t_istore (pc' := 5) (L' := #[vi p0, vi p1, vi p2, vi p3, vi 3, .unset, .unset, .unset, .unset, .unset, .unset]) X0.here hx hby at_3 rfl rfl ?_
 refine t_iloadN 6 X0.here hx hby at_5 rfl rfl ?_
 refine X0.ldcInt hx hown (mvT hZ (w0 hw)) (g := (mkF m 6 #[vi p0, vi p1, vi p2, vi p3, vi 3, .unset, .unset, .unset, .unset, .unset, .unset] [(.int p1)])) rfl (hb hby at_6) _ ?_
 refine t_iand 9 (r := (own_ch p1)) X0.here hx hby at_8 (Eq.refl (own_ch p1)) rfl ?_
 refine t_i2c 10 (r := (own_ch p1)) X0.here hx hby at_9 (own_c2d (own_m16a p1) (own_m16b p1)) rfl ?_
 refine t_istore (pc' := 12) (L' := #[vi p0, vi p1, vi p2, vi p3, vi 3, vi ((own_ch p1)), .unset, .unset, .unset, .unset, .unset]) X0.here hx hby at_10 rfl rfl ?_
 refine t_iloadN 13 X0.here hx hby at_12 rfl rfl ?_
 refine t_iconst 14 (r := 2) X0.here hx hby at_13 (by decide) rfl ?_
 refine t_iushr 15 X0.here hx hby at_14 rfl rfl ?_
 refine t_iconst 16 (r := 1) X0.here hx hby at_15 (by decide) rfl ?_
 refine t_iand 17 (r := 0) X0.here hx hby at_16 hbit rfl ?_
 refine t_ifYes (pc := 17) 80 X0.here hx hby at_17 (by decide) (by decide) (by decide) ?_
 refine t_iloadN 81 X0.here hx hby at_80 rfl rfl ?_
 refine X0.ldcInt hx hown (mvT hZ (w0 hw)) (g := (mkF m 81 #[vi p0, vi p1, vi p2, vi p3, vi 3, vi ((own_ch p1)), .unset, .unset, .unset, .unset, .unset] [(.int p2)])) rfl (hb hby at_81) _ ?_
 refine t_iand 84 (r := (own_ch p2)) X0.here hx hby at_83 (Eq.refl (own_ch p2)) rfl ?_
 refine t_i2c 85 (r := (own_ch p2)) X0.here hx hby at_84 (own_c2d (own_m16a p2) (own_m16b p2)) rfl ?_
 refine t_istore (pc' := 87) (L' := #[vi p0, vi p1, vi p2, vi p3, vi 3, vi ((own_ch p1)), vi ((own_ch p2)), .unset, .unset, .unset, .unset]) X0.here hx hby at_85 rfl rfl ?_
 refine t_iloadN 88 X0.here hx hby at_87 rfl rfl ?_
 refine X0.ldcInt hx hown (mvT hZ (w0 hw)) (g := (mkF m 88 #[vi p0, vi p1, vi p2, vi p3, vi 3, vi ((own_ch p1)), vi ((own_ch p2)), .unset, .unset, .unset, .unset] [(.int p3)])) rfl (hb hby at_88) _ ?_
 refine t_iand 91 (r := (own_ch p3)) X0.here hx hby at_90 (Eq.refl (own_ch p3)) rfl ?_
 refine t_i2c 92 (r := (own_ch p3)) X0.here hx hby at_91 (own_c2d (own_m16a p3) (own_m16b p3)) rfl ?_
 refine t_istore (pc' := 94) (L' := #[vi p0, vi p1, vi p2, vi p3, vi 3, vi ((own_ch p1)), vi ((own_ch p2)), vi ((own_ch p3)), .unset, .unset, .unset]) X0.here hx hby at_92 rfl rfl ?_
 refine t_iload 96 X0.here hx hby at_94 rfl rfl ?_
 refine t_iload 98 X0.here hx hby at_96 rfl rfl ?_
 refine t_iload 100 X0.here hx hby at_98 rfl rfl ?_
 refine t_iload 102 X0.here hx hby at_100 rfl rfl ?_
 refine st1 _ ?_
 refine t_astore (pc' := 107) (L' := #[vi p0, vi p1, vi p2, vi p3, vi 3, vi ((own_ch p1)), vi ((own_ch p2)), vi ((own_ch p3)), vr b4_1, .unset, .unset]) X1.here hx hby at_105 rfl rfl rfl ?_
 refine t_aload 109 X1.here hx hby at_107 rfl rfl rfl ?_
 refine st4 _ ?_
 refine t_astore (pc' := 114) (L' := #[vi p0, vi p1, vi p2, vi p3, vi 3, vi ((own_ch p1)), vi ((own_ch p2)), vi ((own_ch p3)), vr b4_1, vr st_EMPTY, .unset]) X4.here hx hby at_112 rfl rfl rfl ?_
 refine t_iload 116 X4.here hx hby at_114 rfl rfl ?_
 refine t_iload 118 X4.here hx hby at_116 rfl rfl ?_
 refine st6 _ ?_
 refine t_astore (pc' := 123) (L' := #[vi p0, vi p1, vi p2, vi p3, vi 3, vi ((own_ch p1)), vi ((own_ch p2)), vi ((own_ch p3)), vr b4_1, vr st_EMPTY, .val .null]) X6.here hx hby at_121 rfl rfl rfl ?_
 refine t_aload 125 X6.here hx hby at_123 rfl rfl rfl ?_
 refine t_ifnonnullNo 128 X6.here hx hby at_125 rfl ?_
 refine t_aload 130 X6.here hx hby at_128 rfl rfl rfl ?_
 refine st7 _ ?_
 refine t_ifNo 136 X7.here hx hby at_133 (by decide) rfl ?_
 refine t_iconst 137 (r := 1) X7.here hx hby at_136 (by decide) rfl ?_
 refine t_goto (pc := 137) 141 X7.here hx hby at_137 (by decide) (by decide) ?_
 exact retN X7 hx (t := .boolean) hret (by simp) (hb hby at_141) hr
def WS_r95_compress (Z : State) (o2 : Addr) : List (Addr × Nat) := [(o2, (0 : Int32).toNatClampNeg), (o2, (1 : Int32).toNatClampNeg)]
def Q_r95_compress (Z : State) (o0 o2 : Addr) (i_1 i_2 i_3 : Int32) (k_o0 k_o2 : ClassId) (h0 : Heap) (n0 : Nat) (v : Option Value) (h : Heap) (L : List Loc) : Prop := v = some (.int 2) ∧ Fr n0 L ∧ KL h0 h (WS_r95_compress Z o2) ∧ Arv Z h o2 k_o2 .byte 3 [(.int (i_1.toInt8.toInt32)), (.int (i_2.toInt8.toInt32)), z0] z0
theorem r95_compress (l : Launch) (Z : State) (a0 : Array Value) (hw : HW Z a0) (ws : List Jvm.Cond) (o0 o2 : Addr) (i_1 i_2 i_3 : Int32) (k_o0 k_o2 : ClassId) (h0 : Heap) (n0 : Nat) (Z0 : n0 ≤ h0.size) (V_o0 : Arv Z h0 o0 k_o0 .char 3 [(.int i_1), (.int i_2), (.int i_3)] z0) (hp0 : ¬ ((255 : Int32) < i_1)) (V_o2 : Arv Z h0 o2 k_o2 .byte 3 [z0, z0, z0] z0) (g_o2 : n0 ≤ o2) (ne_o0_o2 : o0 ≠ o2) (hp1 : ¬ ((255 : Int32) < i_2)) (hp2 : (255 : Int32) < i_3) :
    MF l Z y26_compress b27_ 7 (some .int) ws ⟨0, 0, 0, 0⟩ #[(.ref o0), z0, (.ref o2), z0, (.int 3)] h0 (Q_r95_compress Z o0 o2 i_1 i_2 i_3 k_o0 k_o2 h0 n0) := by
 refine own_body (plainFor_of_name pn_StringUTF16906) (ef_15 o0 (0 : Int32) o2 (0 : Int32) (3 : Int32)) (by decide) (by decide) ?_
 intro p e s m below meth c s₁ hx hby hml hown hnm hret hZ hh e0 X0
 have N0 := Fr.nil n0
 obtain ⟨T4, h4, X4, e4, W4, V4, st4⟩ := own_astB X0 hx hZ e0 V_o2 (j := 0) (by decide) 0 rfl (Nat.le_of_ble_eq_true rfl) (g := (mkF m 31 #[vr o0, vi 0, vr o2, vi 0, vi 3, vi 0, vi i_1] [(.int (i_1.toInt8.toInt32)), z0, (.ref o2)])) rfl rfl (hb hby d423)
 rw [show (nar .byte (i_1.toInt8.toInt32)) = (i_1.toInt8.toInt32) from (own_narb _)] at V4
 have K4 := KL.ofW W4
 replace V4 : Arv Z h4 o2 k_o2 .byte 3 [(.int (i_1.toInt8.toInt32)), z0, z0] z0 := V4
 have N4 := Fr.snoc X4 N0 g_o2
 have f5 := (kArv K4 V_o0 (naN (Ne.symm ne_o0_o2) na0))
 obtain ⟨T6, h6, X6, e6, W6, V6, st6⟩ := own_astB X4 hx hZ e4 V4 (j := 1) (by decide) 1 rfl (Nat.le_of_ble_eq_true rfl) (g := (mkF m 31 #[vr o0, vi 1, vr o2, vi 1, vi 3, vi 1, vi i_2] [(.int (i_2.toInt8.toInt32)), (.int 1), (.ref o2)])) rfl rfl (hb hby d423)
 rw [show (nar .byte (i_2.toInt8.toInt32)) = (i_2.toInt8.toInt32) from (own_narb _)] at V6
 have K6 := KL.ofW W6
 replace V6 : Arv Z h6 o2 k_o2 .byte 3 [(.int (i_1.toInt8.toInt32)), (.int (i_2.toInt8.toInt32)), z0] z0 := V6
 have N6 := Fr.snoc X6 N4 g_o2
 have f7 := (kArv K6 f5 (naN (Ne.symm ne_o0_o2) na0))
 have C0 := (KL.refl h0 (WS_r95_compress Z o2)).trans K4 (naO (own_mi 0 rfl) na0)
 have C1 := C0.trans K6 (naO (own_mi 1 rfl) na0)
 refine ⟨T6, _, some (.int 2), X6, (fun h => by cases h <;> rfl), ?_, fun fs hr => ?_⟩
 · show Q_r95_compress Z o0 o2 i_1 i_2 i_3 k_o0 k_o2 h0 n0 _ T6.heap _
   rw [e6]
   exact ⟨rfl, N6, C1, V6⟩
 refine t_iconst 1 (r := 0) X0.here hx hby d320 (by decide) rfl ?_
 refine t_istore (pc' := 3) (L' := #[vr o0, vi 0, vr o2, vi 0, vi 3, vi 0, .unset]) X0.here hx hby d321 rfl rfl ?_
 refine t_iload 5 X0.here hx hby d322 rfl rfl ?_
 refine t_iload 7 X0.here hx hby d323 rfl rfl ?_
 refine t_icmpNo 10 X0.here hx hby d324 (by decide) rfl ?_
 refine t_aloadN 11 X0.here hx hby d325 rfl rfl rfl ?_
 refine t_iloadN 12 X0.here hx hby d326 rfl rfl ?_
 refine own_aldC (pc' := 13) X0 hx hZ e0 V_o0 (j := 0) (v := (.int i_1)) (by decide) rfl (hb hby d327) rfl ?_
 refine t_istore (pc' := 15) (L' := #[vr o0, vi 0, vr o2, vi 0, vi 3, vi 0, vi i_1]) X0.here hx hby d328 rfl rfl ?_
 refine t_iload 17 X0.here hx hby d329 rfl rfl ?_
 refine t_sipush 20 (r := 255) X0.here hx hby d330 (by decide) rfl ?_
 refine t_icmpYes (pc := 20) 26 X0.here hx hby d331 (flt hp0).2.2.2 (by decide) (by decide) ?_
 refine t_aloadN 27 X0.here hx hby d419 rfl rfl rfl ?_
 refine t_iloadN 28 X0.here hx hby d420 rfl rfl ?_
 refine t_iload 30 X0.here hx hby d421 rfl rfl ?_
 refine t_i2b 31 X0.here hx hby d422 rfl rfl ?_
 refine st4 _ ?_
 refine t_iinc (pc' := 35) (L' := #[vr o0, vi 1, vr o2, vi 0, vi 3, vi 0, vi i_1]) X4.here hx hby d424 rfl (by first | rfl | decide) rfl ?_
 refine t_iinc (pc' := 38) (L' := #[vr o0, vi 1, vr o2, vi 1, vi 3, vi 0, vi i_1]) X4.here hx hby d425 rfl (by first | rfl | decide) rfl ?_
 refine t_iinc (pc' := 41) (L' := #[vr o0, vi 1, vr o2, vi 1, vi 3, vi 1, vi i_1]) X4.here hx hby d426 rfl (by first | rfl | decide) rfl ?_
 refine t_goto (pc := 41) 3 X4.here hx hby d427 (by decide) (by decide) ?_
 refine t_iload 5 X4.here hx hby d322 rfl rfl ?_
 refine t_iload 7 X4.here hx hby d323 rfl rfl ?_
 refine t_icmpNo 10 X4.here hx hby d324 (by decide) rfl ?_
 refine t_aloadN 11 X4.here hx hby d325 rfl rfl rfl ?_
 refine t_iloadN 12 X4.here hx hby d326 rfl rfl ?_
 refine own_aldC (pc' := 13) X4 hx hZ e4 f5 (j := 1) (v := (.int i_2)) (by decide) rfl (hb hby d327) rfl ?_
 refine t_istore (pc' := 15) (L' := #[vr o0, vi 1, vr o2, vi 1, vi 3, vi 1, vi i_2]) X4.here hx hby d328 rfl rfl ?_
 refine t_iload 17 X4.here hx hby d329 rfl rfl ?_
 refine t_sipush 20 (r := 255) X4.here hx hby d330 (by decide) rfl ?_
 refine t_icmpYes (pc := 20) 26 X4.here hx hby d331 (flt hp1).2.2.2 (by decide) (by decide) ?_
 refine t_aloadN 27 X4.here hx hby d419 rfl rfl rfl ?_
 refine t_iloadN 28 X4.here hx hby d420 rfl rfl ?_
 refine t_iload 30 X4.here hx hby d421 rfl rfl ?_
 refine t_i2b 31 X4.here hx hby d422 rfl rfl ?_
 refine st6 _ ?_
 refine t_iinc (pc' := 35) (L' := #[vr o0, vi 2, vr o2, vi 1, vi 3, vi 1, vi i_2]) X6.here hx hby d424 rfl (by first | rfl | decide) rfl ?_
 refine t_iinc (pc' := 38) (L' := #[vr o0, vi 2, vr o2, vi 2, vi 3, vi 1, vi i_2]) X6.here hx hby d425 rfl (by first | rfl | decide) rfl ?_
 refine t_iinc (pc' := 41) (L' := #[vr o0, vi 2, vr o2, vi 2, vi 3, vi 2, vi i_2]) X6.here hx hby d426 rfl (by first | rfl | decide) rfl ?_
 refine t_goto (pc := 41) 3 X6.here hx hby d427 (by decide) (by decide) ?_
 refine t_iload 5 X6.here hx hby d322 rfl rfl ?_
 refine t_iload 7 X6.here hx hby d323 rfl rfl ?_
 refine t_icmpNo 10 X6.here hx hby d324 (by decide) rfl ?_
 refine t_aloadN 11 X6.here hx hby d325 rfl rfl rfl ?_
 refine t_iloadN 12 X6.here hx hby d326 rfl rfl ?_
 refine own_aldC (pc' := 13) X6 hx hZ e6 f7 (j := 2) (v := (.int i_3)) (by decide) rfl (hb hby d327) rfl ?_
 refine t_istore (pc' := 15) (L' := #[vr o0, vi 2, vr o2, vi 2, vi 3, vi 2, vi i_3]) X6.here hx hby d328 rfl rfl ?_
 refine t_iload 17 X6.here hx hby d329 rfl rfl ?_
 refine t_sipush 20 (r := 255) X6.here hx hby d330 (by decide) rfl ?_
 refine t_icmpNo 23 X6.here hx hby d331 (tlt hp2).2.2.2 rfl ?_
 refine t_iload 25 X6.here hx hby d332 rfl rfl ?_
 exact retI X6 hx hret (hb hby d333) hr
def Q_r96_getChar (Z : State) (o0 : Addr) (i_2 i_3 i_4 i_5 i_6 i_7 : Int32) (k_o0 : ClassId) (h0 : Heap) (n0 : Nat) (v : Option Value) (h : Heap) (L : List Loc) : Prop := v = some (.int (own_chr i_6 i_7)) ∧ Fr n0 L ∧ h = h0
theorem r96_getChar (l : Launch) (Z : State) (a0 : Array Value) (hw : HW Z a0) (ws : List Jvm.Cond) (o0 : Addr) (i_2 i_3 i_4 i_5 i_6 i_7 : Int32) (k_o0 : ClassId) (h0 : Heap) (n0 : Nat) (Z0 : n0 ≤ h0.size) (S__assertionsDisabled : Sa5 Z (.int 1)) (O0 : Old Z n0 h0) (V_o0 : Arv Z h0 o0 k_o0 .byte 6 [(.int i_2), (.int i_3), (.int i_4), (.int i_5), (.int i_6), (.int i_7)] z0) (S_HI_BYTE_SHIFT : Sa6 Z z0) (S_LO_BYTE_SHIFT : Sa7 Z (.int 8)) :
    MF l Z y24_getChar b25_ 2 (some .char) ws ⟨0, 0, 0, 0⟩ #[(.ref o0), (.int 2)] h0 (Q_r96_getChar Z o0 i_2 i_3 i_4 i_5 i_6 i_7 k_o0 h0 n0) := by
 refine own_body (plainFor_of_name pn_StringUTF16906) (ef_4 o0 (2 : Int32)) (by decide) (by decide) ?_
 intro p e s m below meth c s₁ hx hby hml hown hnm hret hZ hh e0 X0
 have N0 := Fr.nil n0
 obtain ⟨T1, X1, e1, st1⟩ := getS2 X0 hx hZ hown (host := "") (Or.inl (w81 hw)) Via.refl e0 (Sta.ext O0.2 S__assertionsDisabled) (g := (mkF m 0 #[vr o0, vi 2] [])) rfl (hb hby d263)
 obtain ⟨T8, X8, e8, st8⟩ := getS2 X1 hx hZ hown (host := "") (Or.inl (w82 hw)) Via.refl e1 (Sta.ext O0.2 S_HI_BYTE_SHIFT) (g := (mkF m 42 #[vr o0, vi 5] [(.int (i_6 &&& (255 : Int32)))])) rfl (hb hby d275)
 obtain ⟨T9, X9, e9, st9⟩ := getS2 X8 hx hZ hown (host := "") (Or.inl (w83 hw)) Via.refl e8 (Sta.ext O0.2 S_LO_BYTE_SHIFT) (g := (mkF m 53 #[vr o0, vi 5] [(.int (i_7 &&& (255 : Int32))), (.int (i_6 &&& (255 : Int32)))])) rfl (hb hby d282)
 refine ⟨T9, _, some (.int (own_chr i_6 i_7)), X9, (fun h => by cases h <;> rfl), ?_, fun fs hr => ?_⟩
 · show Q_r96_getChar Z o0 i_2 i_3 i_4 i_5 i_6 i_7 k_o0 h0 n0 _ T9.heap _
   rw [e9]
   exact ⟨rfl, N0, rfl⟩
 rw [← (show (nar .char (own_chr i_6 i_7)) = (own_chr i_6 i_7) from (own_chrC _ _))] at hr
 refine st1 _ ?_
 refine t_ifYes (pc := 3) 28 X1.here hx hby d264 (by decide) (by decide) (by decide) ?_
 refine t_iloadN 29 X1.here hx hby d265 rfl rfl ?_
 refine t_iconst 30 (r := 1) X1.here hx hby d266 (by decide) rfl ?_
 refine t_ishl 31 (r := 4) X1.here hx hby d267 (by decide : ((2 : Int32) <<< ((1 : Int32) &&& 31)) = (4 : Int32)) rfl ?_
 refine t_istoreN (pc' := 32) (L' := #[vr o0, vi 4]) X1.here hx hby d268 rfl rfl ?_
 refine t_aloadN 33 X1.here hx hby d269 rfl rfl rfl ?_
 refine t_iloadN 34 X1.here hx hby d270 rfl rfl ?_
 refine t_iinc (pc' := 37) (L' := #[vr o0, vi 5]) X1.here hx hby d271 rfl (by first | rfl | decide) rfl ?_
 refine own_aldB (pc' := 38) X1 hx hZ e1 V_o0 (j := 4) (v := (.int i_6)) (by decide) rfl (hb hby d272) rfl ?_
 refine t_sipush 41 (r := 255) X1.here hx hby d273 (by decide) rfl ?_
 refine t_iand 42 X1.here hx hby d274 rfl rfl ?_
 refine st8 _ ?_
 refine t_ishl 46 (r := (i_6 &&& (255 : Int32))) X8.here hx hby d276 (own_shl0 _) rfl ?_
 refine t_aloadN 47 X8.here hx hby d277 rfl rfl rfl ?_
 refine t_iloadN 48 X8.here hx hby d278 rfl rfl ?_
 refine own_aldB (pc' := 49) X8 hx hZ e8 V_o0 (j := 5) (v := (.int i_7)) (by decide) rfl (hb hby d279) rfl ?_
 refine t_sipush 52 (r := 255) X8.here hx hby d280 (by decide) rfl ?_
 refine t_iand 53 X8.here hx hby d281 rfl rfl ?_
 refine st9 _ ?_
 refine t_ishl 57 X9.here hx hby d283 rfl rfl ?_
 refine t_ior 58 (r := (own_chr i_6 i_7)) X9.here hx hby d284 (Eq.refl (own_chr i_6 i_7)) rfl ?_
 refine t_i2c 59 (r := (own_chr i_6 i_7)) X9.here hx hby d285 (own_chrC _ _) rfl ?_
 exact retN X9 hx (t := .char) hret (by simp) (hb hby d286) hr
def Q_r94_compress (Z : State) (o0 : Addr) (i_2 i_3 i_4 : Int32) (k_o0 : ClassId) (h0 : Heap) (n0 : Nat) (v : Option Value) (h : Heap) (L : List Loc) : Prop := ∃ b2_1_9 : Addr, ∃ k2_1_9 : ClassId, v = some (.ref b2_1_9) ∧ Fr n0 L ∧ KL h0 h [] ∧ h0.size ≤ b2_1_9 ∧ Arv Z h b2_1_9 k2_1_9 .byte 6 [(.int (i_2.toInt8.toInt32)), (.int ((i_2 >>> ((8 : Int32) &&& 31)).toInt8.toInt32)), (.int (i_3.toInt8.toInt32)), (.int ((i_3 >>> ((8 : Int32) &&& 31)).toInt8.toInt32)), (.int (i_4.toInt8.toInt32)), (.int ((i_4 >>> ((8 : Int32) &&& 31)).toInt8.toInt32))] z0
theorem r94_compress (l : Launch) (Z : State) (a0 : Array Value) (hw : HW Z a0) (ws : List Jvm.Cond) (o0 : Addr) (i_2 i_3 i_4 : Int32) (k_o0 : ClassId) (h0 : Heap) (n0 : Nat) (Z0 : n0 ≤ h0.size) (V_o0 : Arv Z h0 o0 k_o0 .char 3 [(.int i_2), (.int i_3), (.int i_4)] z0) (hp0 : ¬ ((255 : Int32) < i_2)) (hp1 : ¬ ((255 : Int32) < i_3)) (hp2 : (255 : Int32) < i_4) (S__assertionsDisabled : Sa5 Z (.int 1)) (S_HI_BYTE_SHIFT : Sa6 Z z0) (S_LO_BYTE_SHIFT : Sa7 Z (.int 8)) (O0 : Old Z n0 h0) (hp3 : ¬ (i_4 < (0 : Int32))) (hp4 : ¬ ((65535 : Int32) < i_4)) :
    MF l Z y30_compress b26_ 6 (some (.array .byte)) ws ⟨3, 2, 9, 40⟩ #[(.ref o0), z0, (.int 3)] h0 (Q_r94_compress Z o0 i_2 i_3 i_4 k_o0 h0 n0) := by
 refine own_body (plainFor_of_name pn_StringUTF16906) (ef_17 o0 (0 : Int32) (3 : Int32)) (by decide) (by decide) ?_
 intro p e s m below meth c s₁ hx hby hml hown hnm hret hZ hh e0 X0
 have N0 := Fr.nil n0
 obtain ⟨T1, h1, k1, X1, e1, E1, A1, st1⟩ := newP (aty := .byte) X0 hx hZ (w20 hw) e0 (g := (mkF m 1 #[vr o0, vi 0, vi 3, .unset, .unset, .unset] [(.int 3)])) rfl (hb hby d312) rfl (by decide) (cap := 3) (by decide) (by decide) (by decide) (by decide)
 obtain ⟨b1, g1⟩ : ∃ z, z = h0.size := ⟨_, rfl⟩
 rw [← g1] at A1 st1
 have ge_b1 : h0.size ≤ b1 := Nat.le_of_eq g1.symm
 have K1 := KL.ofE E1
 have V1 : Arv Z h1 b1 k1 .byte 3 [z0, z0, z0] z0 := (Arv.new A1 (by decide)).pad (pad_rep [] z0 3)
 have f6 := (kArv K1 V_o0 na0)
 have gg7 := Nat.le_trans Z0 ge_b1
 have lt_o0 : o0 < h0.size := Arv.lt V_o0
 have ne8 := lt_ne lt_o0 ge_b1
 obtain ⟨_, T5, L5, X5, hQ5, st5⟩ := own_static X1 hx hZ hown (w62 hw) (w63 hw) (w60 hw) (w64 hw) (by decide) (r95_compress l Z a0 hw [] o0 b1 i_2 i_3 i_4 k_o0 k1 h1 n0 (Nat.le_trans Z0 K1.1) f6 hp0 V1 gg7 ne8 hp1 hp2) e1 (W := 0) (by decide) (g := (mkF m 9 #[vr o0, vi 0, vi 3, vr b1, .unset, .unset] [(.int 3), z0, (.ref b1), z0, (.ref o0)])) rfl hml.symm (argsL := [(.ref o0), z0, (.ref b1), z0, (.int 3)]) (rest := []) (lenOf pd_22 rfl) rfl rfl (own_wr rfl rfl) (hb hby d319)
 obtain ⟨rfl, N5q, K5, Q5_0⟩ := hQ5
 have N5 := Fr.app N0 N5q
 have f10 := (kArv K5 f6 (naN (Ne.symm ne8) (naN (Ne.symm ne8) na0)))
 have f11 := (kOld K5 (kOld K1 O0 na0) (naG gg7 (naG gg7 na0)))
 have sz_0_2 := (Nat.le_trans K1.1 K5.1)
 obtain ⟨_, T9, L9, X9, hQ9, st9⟩ := own_static X5 hx hZ hown (w68 hw) (w69 hw) (w60 hw) (w70 hw) (by decide) (r60_toBytes l Z a0 hw [] o0 i_2 i_3 i_4 k_o0 T5.heap n0 (Nat.le_trans Z0 sz_0_2) f10 S__assertionsDisabled S_HI_BYTE_SHIFT S_LO_BYTE_SHIFT f11) rfl (W := 0) (by decide) (g := (mkF m 23 #[vr o0, vi 0, vi 3, vr b1, vi 2, .unset] [(.int 3), z0, (.ref o0)])) rfl hml.symm (argsL := [(.ref o0), z0, (.int 3)]) (rest := []) (lenOf pd_25 rfl) rfl rfl (own_wr rfl rfl) (hb hby d341)
 obtain ⟨b2_1_9, k2_1_9, rfl, N9q, K9, Q9_0, Q9_1⟩ := hQ9
 have N9 := Fr.app N5 N9q
 have f14 := (kOld K9 f11 na0)
 have sz_0_3 := (Nat.le_trans sz_0_2 K9.1)
 obtain ⟨_, T13, L13, X13, hQ13, st13⟩ := own_static X9 hx hZ hown (w84 hw) (w85 hw) (w60 hw) (w86 hw) (by decide) (r96_getChar l Z a0 hw [] b2_1_9 (i_2.toInt8.toInt32) ((i_2 >>> ((8 : Int32) &&& 31)).toInt8.toInt32) (i_3.toInt8.toInt32) ((i_3 >>> ((8 : Int32) &&& 31)).toInt8.toInt32) (i_4.toInt8.toInt32) ((i_4 >>> ((8 : Int32) &&& 31)).toInt8.toInt32) k2_1_9 T9.heap n0 (Nat.le_trans Z0 sz_0_3) S__assertionsDisabled f14 Q9_1 S_HI_BYTE_SHIFT S_LO_BYTE_SHIFT) rfl (W := 0) (by decide) (g := (mkF m 32 #[vr o0, vi 0, vi 3, vr b1, vi 2, vr b2_1_9] [(.int 2), (.ref b2_1_9)])) rfl hml.symm (argsL := [(.ref b2_1_9), (.int 2)]) (rest := []) (lenOf pd_5 rfl) rfl rfl (own_wr rfl rfl) (hb hby d377)
 obtain ⟨rfl, N13q, e13⟩ := hQ13
 have N13 := Fr.app N9 N13q
 have C0 := (KL.refl h0 []).trans K1 na0
 have C1 := C0.trans K5 (naO (Or.inr ge_b1) (naO (Or.inr ge_b1) na0))
 have C2 := C1.trans K9 na0
 refine ⟨T13, _, some (.ref b2_1_9), X13, (fun h => by cases h <;> rfl), ?_, fun fs hr => ?_⟩
 · show Q_r94_compress Z o0 i_2 i_3 i_4 k_o0 h0 n0 _ T13.heap _
   rw [e13]
   exact ⟨b2_1_9, k2_1_9, rfl, N13, C2, (Nat.le_trans sz_0_2 Q9_0), Q9_1⟩
 refine t_iloadN 1 X0.here hx hby d311 rfl rfl ?_
 refine st1 _ ?_
 refine t_astoreN (pc' := 4) (L' := #[vr o0, vi 0, vi 3, vr b1, .unset, .unset]) X1.here hx hby d313 rfl rfl rfl ?_
 refine t_aloadN 5 X1.here hx hby d314 rfl rfl rfl ?_
 refine t_iloadN 6 X1.here hx hby d315 rfl rfl ?_
 refine t_aloadN 7 X1.here hx hby d316 rfl rfl rfl ?_
 refine t_iconst 8 (r := 0) X1.here hx hby d317 (by decide) rfl ?_
 refine t_iloadN 9 X1.here hx hby d318 rfl rfl ?_
 refine st5 _ ?_
 refine t_istore (pc' := 14) (L' := #[vr o0, vi 0, vi 3, vr b1, vi 2, .unset]) X5.here hx hby d334 rfl rfl ?_
 refine t_iload 16 X5.here hx hby d335 rfl rfl ?_
 refine t_iloadN 17 X5.here hx hby d336 rfl rfl ?_
 refine t_icmpNo 20 X5.here hx hby d337 (by decide) rfl ?_
 refine t_aloadN 21 X5.here hx hby d338 rfl rfl rfl ?_
 refine t_iloadN 22 X5.here hx hby d339 rfl rfl ?_
 refine t_iloadN 23 X5.here hx hby d340 rfl rfl ?_
 refine st9 _ ?_
 refine t_astore (pc' := 28) (L' := #[vr o0, vi 0, vi 3, vr b1, vi 2, vr b2_1_9]) X9.here hx hby d374 rfl rfl rfl ?_
 refine t_aload 30 X9.here hx hby d375 rfl rfl rfl ?_
 refine t_iload 32 X9.here hx hby d376 rfl rfl ?_
 refine st13 _ ?_
 refine castTop (g' := (mkF m 35 #[vr o0, vi 0, vi 3, vr b1, vi 2, vr b2_1_9] [(.int i_4)])) (congrArg (fun z => mkF m 35 #[vr o0, vi 0, vi 3, vr b1, vi 2, vr b2_1_9] (Value.int z :: [])) (own_chrE hp3 hp4)) ?_
 refine t_sipush 38 (r := 255) X13.here hx hby d378 (by decide) rfl ?_
 refine t_icmpYes (pc := 38) 54 X13.here hx hby d379 (tlt hp2).2.2.1 (by decide) (by decide) ?_
 refine t_aload 56 X13.here hx hby d380 rfl rfl rfl ?_
 jvm_step X13.here [X13.here.top, hx, (hb hby d381), X13.method', hret, Value.isRef, FieldType.isReference]
 first | (intro acts; rw [hr _ acts rfl rfl rfl]) | rw [hr _ _ rfl rfl rfl]
 exact Steps.refl _
def WS_r93__init_ (Z : State) (o0 : Addr) : List (Addr × Nat) := [(o0, (sl1 Z)), (o0, (sl0 Z))]
def Q_r93__init_ (Z : State) (o0 o1 : Addr) (i_2 i_4 i_5 i_6 : Int32) (k_o1 : ClassId) (h0 : Heap) (n0 : Nat) (v : Option Value) (h : Heap) (L : List Loc) : Prop := ∃ b2_1_9_7 : Addr, ∃ k2_1_9_7 : ClassId, v = none ∧ Fr n0 L ∧ KL h0 h (WS_r93__init_ Z o0) ∧ h0.size ≤ b2_1_9_7 ∧ Fd1 Z h o0 (.int 1) ∧ Fd0 Z h o0 (.ref b2_1_9_7) ∧ Arv Z h b2_1_9_7 k2_1_9_7 .byte 6 [(.int (i_4.toInt8.toInt32)), (.int ((i_4 >>> ((8 : Int32) &&& 31)).toInt8.toInt32)), (.int (i_5.toInt8.toInt32)), (.int ((i_5 >>> ((8 : Int32) &&& 31)).toInt8.toInt32)), (.int (i_6.toInt8.toInt32)), (.int ((i_6 >>> ((8 : Int32) &&& 31)).toInt8.toInt32))] z0
theorem r93__init_ (l : Launch) (Z : State) (a0 : Array Value) (hw : HW Z a0) (ws : List Jvm.Cond) (o0 o1 : Addr) (i_2 i_4 i_5 i_6 : Int32) (k_o1 : ClassId) (h0 : Heap) (n0 : Nat) (Z0 : n0 ≤ h0.size) (sCS : SCS Z i_2) (O0 : Old Z n0 h0) (hp0 : ¬ (i_2 = (0 : Int32))) (V_o1 : Arv Z h0 o1 k_o1 .char 3 [(.int i_4), (.int i_5), (.int i_6)] z0) (S__assertionsDisabled : Sa5 Z (.int 1)) (S_HI_BYTE_SHIFT : Sa6 Z z0) (S_LO_BYTE_SHIFT : Sa7 Z (.int 8)) (hp1 : ¬ ((255 : Int32) < i_4)) (hp2 : ¬ ((255 : Int32) < i_5)) (hp3 : (255 : Int32) < i_6) (hp4 : ¬ (i_6 < (0 : Int32))) (hp5 : ¬ ((65535 : Int32) < i_6)) (F_o0_coder : Fd1 Z h0 o0 z0) (E_o0 : Ex0 Z h0 o0) (g_o0 : n0 ≤ o0) (F_o0_value : Fd0 Z h0 o0 .null) :
    MF l Z y11__init_ b13_ 6 none ws ⟨4, 2, 9, 57⟩ #[(.ref o0), (.ref o1), z0, (.int 3), .null] h0 (Q_r93__init_ Z o0 o1 i_2 i_4 i_5 i_6 k_o1 h0 n0) := by
 refine own_body (plainFor_of_name pn_String564) (ef_7 o0 o1 (0 : Int32) (3 : Int32)) (by decide) (by decide) ?_
 intro p e s m below meth c s₁ hx hby hml hown hnm hret hZ hh e0 X0
 have N0 := Fr.nil n0
 obtain ⟨T1, X1, e1, st1⟩ := initO X0 hx hZ hown (w16 hw) (w17 hw) (w18 hw) e0 (g := (mkF m 1 #[vr o0, vr o1, vi 0, vi 3, .val .null, .unset] [(.ref o0)])) rfl hml.symm rfl (hb hby d128) (by decide) (W := 0) (own_wr rfl rfl) (by decide)
 obtain ⟨T3, X3, e3, st3⟩ := getS2 X1 hx hZ hown (host := "") (Or.inl (w41 hw)) Via.refl e1 (Sta.ext O0.2 sCS) (g := (mkF m 27 #[vr o0, vr o1, vi 0, vi 3, .val .null, .unset] [])) rfl (hb hby d305)
 obtain ⟨_, T7, L7, X7, hQ7, st7⟩ := own_static X3 hx hZ hown (w58 hw) (w59 hw) (w60 hw) (w61 hw) (by decide) (r94_compress l Z a0 hw [] o1 i_4 i_5 i_6 k_o1 h0 n0 Z0 V_o1 hp1 hp2 hp3 S__assertionsDisabled S_HI_BYTE_SHIFT S_LO_BYTE_SHIFT O0 hp4 hp5) e3 (W := 0) (by decide) (g := (mkF m 36 #[vr o0, vr o1, vi 0, vi 3, .val .null, .unset] [(.int 3), z0, (.ref o1)])) rfl hml.symm (argsL := [(.ref o1), z0, (.int 3)]) (rest := []) (lenOf pd_25 rfl) rfl rfl (own_wr rfl rfl) (hb hby d310)
 obtain ⟨b2_1_9_7, k2_1_9_7, rfl, N7q, K7, Q7_0, Q7_1⟩ := hQ7
 have N7 := Fr.app N0 N7q
 obtain ⟨_, T9, L9, X9, hQ9, st9⟩ := own_static X7 hx hZ hown (w65 hw) (w66 hw) (w60 hw) (w67 hw) (by decide) (r67_coderFromArrayLen l Z a0 hw [] b2_1_9_7 (i_4.toInt8.toInt32) ((i_4 >>> ((8 : Int32) &&& 31)).toInt8.toInt32) (i_5.toInt8.toInt32) ((i_5 >>> ((8 : Int32) &&& 31)).toInt8.toInt32) (i_6.toInt8.toInt32) ((i_6 >>> ((8 : Int32) &&& 31)).toInt8.toInt32) k2_1_9_7 T7.heap n0 (Nat.le_trans Z0 K7.1) Q7_1) rfl (W := 1) (by decide) (g := (mkF m 45 #[vr o0, vr o1, vi 0, vi 3, .val .null, vr b2_1_9_7] [(.int 3), (.ref b2_1_9_7), (.ref o0)])) rfl hml.symm (argsL := [(.ref b2_1_9_7), (.int 3)]) (rest := [(.ref o0)]) (lenOf pd_26 rfl) rfl rfl (own_wr rfl rfl) (hb hby d386)
 obtain ⟨rfl, N9q, e9⟩ := hQ9
 have N9 := Fr.app N7 N9q
 have f10 := (kFld K7 F_o0_coder nw0)
 have f11 := (kExa K7 E_o0)
 obtain ⟨T12, h12, X12, e12, W12, st12⟩ := putF X9 hx hZ hown (host := "") (Or.inl (w26 hw)) Via.refl e9 f10 f11 (Or.inr ⟨(w22 hw), rfl, hnm⟩) (w6 hw) (ty := .byte) (by decide) (by decide) (by decide) (g := (mkF m 48 #[vr o0, vr o1, vi 0, vi 3, .val .null, vr b2_1_9_7] [(.int 1), (.ref o0)])) rfl rfl (hb hby d395)
 have K12 := KL.ofW W12
 have Fw12 : Fd1 Z h12 o0 (.int 1) := Fld.same W12 f10
 have N12 := Fr.snoc X12 N9 g_o0
 have f13 := (kFld K12 (kFld K7 F_o0_value nw0) (nwR (sn_1 hw) nw0))
 have f14 := (kExa K12 f11)
 obtain ⟨T15, h15, X15, e15, W15, st15⟩ := putF X12 hx hZ hown (host := "") (Or.inl (w25 hw)) Via.refl e12 f13 f14 (Or.inr ⟨(w21 hw), rfl, hnm⟩) (w6 hw) (ty := (.array .byte)) (by decide) rfl rfl (g := (mkF m 54 #[vr o0, vr o1, vi 0, vi 3, .val .null, vr b2_1_9_7] [(.ref b2_1_9_7), (.ref o0)])) rfl rfl (hb hby d398)
 have K15 := KL.ofW W15
 have Fw15 : Fd0 Z h15 o0 (.ref b2_1_9_7) := Fld.same W15 f13
 have N15 := Fr.snoc X15 N12 g_o0
 have C0 := (KL.refl h0 (WS_r93__init_ Z o0)).trans K7 na0
 have C1 := C0.trans K12 (naO (own_mi 0 rfl) na0)
 have C2 := C1.trans K15 (naO (own_mi 1 rfl) na0)
 have f16 := (kFld K15 Fw12 (nwR (sn_0 hw) nw0))
 have lt_o0 : o0 < h0.size := Fld.lt F_o0_coder
 have ne17 := lt_ne lt_o0 Q7_0
 have f18 := (kArv K15 (kArv K12 Q7_1 (naN ne17 na0)) (naN ne17 na0))
 refine ⟨T15, _, none, X15, (fun h => by cases h <;> rfl), ?_, fun fs hr => ?_⟩
 · show Q_r93__init_ Z o0 o1 i_2 i_4 i_5 i_6 k_o1 h0 n0 _ T15.heap _
   rw [e15]
   exact ⟨b2_1_9_7, k2_1_9_7, rfl, N15, C2, Q7_0, f16, Fw15, f18⟩
 refine t_aloadN 1 X0.here hx hby d127 rfl rfl rfl ?_
 refine st1 _ ?_
 refine t_iloadN 5 X1.here hx hby d129 rfl rfl ?_
 refine t_ifYes (pc := 5) 27 X1.here hx hby d130 (by decide) (by decide) (by decide) ?_
 refine st3 _ ?_
 refine t_ifNo 33 X3.here hx hby d306 ((if0 _ _).trans (feq hp0).1) rfl ?_
 refine t_aloadN 34 X3.here hx hby d307 rfl rfl rfl ?_
 refine t_iloadN 35 X3.here hx hby d308 rfl rfl ?_
 refine t_iloadN 36 X3.here hx hby d309 rfl rfl ?_
 refine st7 _ ?_
 refine t_astore (pc' := 41) (L' := #[vr o0, vr o1, vi 0, vi 3, .val .null, vr b2_1_9_7]) X7.here hx hby d382 rfl rfl rfl ?_
 refine t_aloadN 42 X7.here hx hby d383 rfl rfl rfl ?_
 refine t_aload 44 X7.here hx hby d384 rfl rfl rfl ?_
 refine t_iloadN 45 X7.here hx hby d385 rfl rfl ?_
 refine st9 _ ?_
 refine st12 _ ?_
 refine t_aloadN 52 X12.here hx hby d396 rfl rfl rfl ?_
 refine t_aload 54 X12.here hx hby d397 rfl rfl rfl ?_
 refine st15 _ ?_
 exact X15.returnOut hx hret (hb hby d399) hr
def WS_r92__init_ (Z : State) (o0 : Addr) : List (Addr × Nat) := [(o0, (sl1 Z)), (o0, (sl0 Z))]
def Q_r92__init_ (Z : State) (o0 o1 : Addr) (i_1 i_2 i_3 : Int32) (k_o1 : ClassId) (i_4 : Int32) (h0 : Heap) (n0 : Nat) (v : Option Value) (h : Heap) (L : List Loc) : Prop := ∃ b2_1_9_7_5 : Addr, ∃ k2_1_9_7_5 : ClassId, v = none ∧ Fr n0 L ∧ KL h0 h (WS_r92__init_ Z o0) ∧ h0.size ≤ b2_1_9_7_5 ∧ Fd1 Z h o0 (.int 1) ∧ Fd0 Z h o0 (.ref b2_1_9_7_5) ∧ Arv Z h b2_1_9_7_5 k2_1_9_7_5 .byte 6 [(.int (i_1.toInt8.toInt32)), (.int ((i_1 >>> ((8 : Int32) &&& 31)).toInt8.toInt32)), (.int (i_2.toInt8.toInt32)), (.int ((i_2 >>> ((8 : Int32) &&& 31)).toInt8.toInt32)), (.int (i_3.toInt8.toInt32)), (.int ((i_3 >>> ((8 : Int32) &&& 31)).toInt8.toInt32))] z0
theorem r92__init_ (l : Launch) (Z : State) (a0 : Array Value) (hw : HW Z a0) (ws : List Jvm.Cond) (o0 o1 : Addr) (i_1 i_2 i_3 : Int32) (k_o1 : ClassId) (i_4 : Int32) (h0 : Heap) (n0 : Nat) (Z0 : n0 ≤ h0.size) (V_o1 : Arv Z h0 o1 k_o1 .char 3 [(.int i_1), (.int i_2), (.int i_3)] z0) (sCS : SCS Z i_4) (S__assertionsDisabled : Sa5 Z (.int 1)) (S_HI_BYTE_SHIFT : Sa6 Z z0) (S_LO_BYTE_SHIFT : Sa7 Z (.int 8)) (F_o0_coder : Fd1 Z h0 o0 z0) (E_o0 : Ex0 Z h0 o0) (F_o0_value : Fd0 Z h0 o0 .null) (O0 : Old Z n0 h0) (hp0 : ¬ (i_4 = (0 : Int32))) (hp1 : ¬ ((255 : Int32) < i_1)) (hp2 : ¬ ((255 : Int32) < i_2)) (hp3 : (255 : Int32) < i_3) (hp4 : ¬ (i_3 < (0 : Int32))) (hp5 : ¬ ((65535 : Int32) < i_3)) (g_o0 : n0 ≤ o0) :
    MF l Z y12__init_ b12_ 2 none ws ⟨5, 2, 9, 74⟩ #[(.ref o0), (.ref o1)] h0 (Q_r92__init_ Z o0 o1 i_1 i_2 i_3 k_o1 i_4 h0 n0) := by
 refine own_body (plainFor_of_name pn_String564) (ef_5 o0 o1) (by decide) (by decide) ?_
 intro p e s m below meth c s₁ hx hby hml hown hnm hret hZ hh e0 X0
 have N0 := Fr.nil n0
 obtain ⟨_, T5, L5, X5, hQ5, st5⟩ := own_init X0 hx hZ rfl hown (w12 hw) (w13 hw) (w7 hw) (w15 hw) (by decide) (r93__init_ l Z a0 hw [] o0 o1 i_4 i_1 i_2 i_3 k_o1 h0 n0 Z0 sCS O0 hp0 V_o1 S__assertionsDisabled S_HI_BYTE_SHIFT S_LO_BYTE_SHIFT hp1 hp2 hp3 hp4 hp5 F_o0_coder E_o0 g_o0 F_o0_value) e0 (W := 0) (by decide) (g := (mkF m 6 #[vr o0, vr o1] [.null, (.int 3), z0, (.ref o1), (.ref o0)])) rfl hml.symm (argsL := [(.ref o1), z0, (.int 3), .null]) (rest := []) (lenOf pd_9 rfl) rfl rfl (own_wr rfl rfl) (hb hby d126)
 obtain ⟨b2_1_9_7_5, k2_1_9_7_5, rfl, N5q, K5, Q5_0, Q5_1, Q5_2, Q5_3⟩ := hQ5
 have N5 := Fr.app N0 N5q
 have C0 := (KL.refl h0 (WS_r92__init_ Z o0)).trans K5 (naO (own_mi 0 rfl) (naO (own_mi 1 rfl) na0))
 refine ⟨T5, _, none, X5, (fun h => by cases h <;> rfl), ?_, fun fs hr => ?_⟩
 · show Q_r92__init_ Z o0 o1 i_1 i_2 i_3 k_o1 i_4 h0 n0 _ T5.heap _
   exact ⟨b2_1_9_7_5, k2_1_9_7_5, rfl, N5, C0, Q5_0, Q5_1, Q5_2, Q5_3⟩
 refine t_aloadN 1 X0.here hx hby d120 rfl rfl rfl ?_
 refine t_aloadN 2 X0.here hx hby d121 rfl rfl rfl ?_
 refine t_iconst 3 (r := 0) X0.here hx hby d122 (by decide) rfl ?_
 refine t_aloadN 4 X0.here hx hby d123 rfl rfl rfl ?_
 refine own_arlen (pc' := 5) X0 hx hZ e0 V_o1 (hb hby d124) rfl ?_
 refine t_aconst_null 6 X0.here hx hby d125 rfl ?_
 refine st5 _ ?_
 exact X5.returnOut hx hret (hb hby d140) hr
def Q_r91_make (Z : State) (i_1 i_2 i_3 i_10 : Int32) (h0 : Heap) (n0 : Nat) (v : Option Value) (h : Heap) (L : List Loc) : Prop := ∃ b4 : Addr, ∃ b2_1_9_7_5_11 : Addr, ∃ k2_1_9_7_5_11 : ClassId, v = some (.ref b4) ∧ Fr n0 L ∧ KL h0 h [] ∧ h0.size ≤ b4 ∧ h0.size ≤ b2_1_9_7_5_11 ∧ b4 ≠ b2_1_9_7_5_11 ∧ Ex0 Z h b4 ∧ Fd0 Z h b4 (.ref b2_1_9_7_5_11) ∧ Fd1 Z h b4 (.int 1) ∧ Arv Z h b2_1_9_7_5_11 k2_1_9_7_5_11 .byte 6 [(.int (i_1.toInt8.toInt32)), (.int ((i_1 >>> ((8 : Int32) &&& 31)).toInt8.toInt32)), (.int (i_2.toInt8.toInt32)), (.int ((i_2 >>> ((8 : Int32) &&& 31)).toInt8.toInt32)), (.int (i_3.toInt8.toInt32)), (.int ((i_3 >>> ((8 : Int32) &&& 31)).toInt8.toInt32))] z0
theorem r91_make (l : Launch) (Z : State) (a0 : Array Value) (hw : HW Z a0) (ws : List Jvm.Cond) (i_1 i_2 i_3 i_10 : Int32) (h0 : Heap) (n0 : Nat) (Z0 : n0 ≤ h0.size) (hp0 : ¬ (i_1 < (0 : Int32))) (hp1 : ¬ ((65535 : Int32) < i_1)) (hp2 : ¬ (i_2 < (0 : Int32))) (hp3 : ¬ ((65535 : Int32) < i_2)) (hp4 : ¬ (i_3 < (0 : Int32))) (hp5 : ¬ ((65535 : Int32) < i_3)) (sCS : SCS Z i_10) (S__assertionsDisabled : Sa5 Z (.int 1)) (S_HI_BYTE_SHIFT : Sa6 Z z0) (S_LO_BYTE_SHIFT : Sa7 Z (.int 8)) (O0 : Old Z n0 h0) (hp6 : ¬ (i_10 = (0 : Int32))) (hp7 : ¬ ((255 : Int32) < i_1)) (hp8 : ¬ ((255 : Int32) < i_2)) (hp9 : (255 : Int32) < i_3) :
    MF l Z y13_make b11_ 4 (some (.object "java/lang/String")) ws ⟨6, 4, 16, 88⟩ #[(.int 3), (.int i_1), (.int i_2), (.int i_3)] h0 (Q_r91_make Z i_1 i_2 i_3 i_10 h0 n0) := by
 refine own_body (plainFor_of_name pn_PaymentFrequencyUnitOfPinLaw855) (ef_8 (3 : Int32) i_1 i_2 i_3) (by decide) (by decide) ?_
 intro p e s m below meth c s₁ hx hby hml hown hnm hret hZ hh e0 X0
 have N0 := Fr.nil n0
 obtain ⟨T4, h4, X4, e4, E4, A4, D4, -, st4⟩ := newO X0 hx hZ hown (w5 hw) (w6 hw) (w7 hw) e0 (g := (mkF m 49 #[vi 3, vi i_1, vi i_2, vi i_3] [])) rfl (hb hby d401) (by decide) (by decide)
 obtain ⟨b4, g4⟩ : ∃ z, z = h0.size := ⟨_, rfl⟩
 rw [← g4] at A4 D4 st4
 have ge_b4 : h0.size ≤ b4 := Nat.le_of_eq g4.symm
 have K4 := KL.ofE E4
 have F_b4_value : Fd0 Z h4 b4 .null := D4 (Or.inr (w21 hw)) (ty := (.array .byte)) (by decide)
 have F_b4_coder : Fd1 Z h4 b4 z0 := D4 (Or.inr (w22 hw)) (ty := .byte) (by decide)
 obtain ⟨T5, h5, k5, X5, e5, E5, A5, st5⟩ := newP (aty := .char) X4 hx hZ (w8 hw) e4 (g := (mkF m 54 #[vi 3, vi i_1, vi i_2, vi i_3] [(.int 3), (.ref b4), (.ref b4)])) rfl (hb hby d404) rfl (by decide) (cap := 3) (by decide) (by decide) (by decide) (by decide)
 obtain ⟨b5, g5⟩ : ∃ z, z = h4.size := ⟨_, rfl⟩
 rw [← g5] at A5 st5
 have ge_b5 : h4.size ≤ b5 := Nat.le_of_eq g5.symm
 have K5 := KL.ofE E5
 have V5 : Arv Z h5 b5 k5 .char 3 [z0, z0, z0] z0 := (Arv.new A5 (by decide)).pad (pad_rep [] z0 3)
 obtain ⟨T6, h6, X6, e6, W6, V6, st6⟩ := own_astC X5 hx hZ e5 V5 (j := 0) (by decide) 0 rfl (Nat.le_of_ble_eq_true rfl) (g := (mkF m 59 #[vi 3, vi i_1, vi i_2, vi i_3] [(.int i_1), z0, (.ref b5), (.ref b5), (.ref b4), (.ref b4)])) rfl rfl (hb hby d408)
 rw [show (nar .char i_1) = i_1 from (own_c2d hp0 hp1)] at V6
 have gg7 := Nat.le_trans Z0 (Nat.le_trans K4.1 ge_b5)
 have K6 := KL.ofW W6
 replace V6 : Arv Z h6 b5 k5 .char 3 [(.int i_1), z0, z0] z0 := V6
 have N6 := Fr.snoc X6 N0 gg7
 obtain ⟨T8, h8, X8, e8, W8, V8, st8⟩ := own_astC X6 hx hZ e6 V6 (j := 1) (by decide) 1 rfl (Nat.le_of_ble_eq_true rfl) (g := (mkF m 63 #[vi 3, vi i_1, vi i_2, vi i_3] [(.int i_2), (.int 1), (.ref b5), (.ref b5), (.ref b4), (.ref b4)])) rfl rfl (hb hby d412)
 rw [show (nar .char i_2) = i_2 from (own_c2d hp2 hp3)] at V8
 have K8 := KL.ofW W8
 replace V8 : Arv Z h8 b5 k5 .char 3 [(.int i_1), (.int i_2), z0] z0 := V8
 have N8 := Fr.snoc X8 N6 gg7
 obtain ⟨T9, h9, X9, e9, W9, V9, st9⟩ := own_astC X8 hx hZ e8 V8 (j := 2) (by decide) 2 rfl (Nat.le_of_ble_eq_true rfl) (g := (mkF m 67 #[vi 3, vi i_1, vi i_2, vi i_3] [(.int i_3), (.int 2), (.ref b5), (.ref b5), (.ref b4), (.ref b4)])) rfl rfl (hb hby d416)
 rw [show (nar .char i_3) = i_3 from (own_c2d hp4 hp5)] at V9
 have K9 := KL.ofW W9
 replace V9 : Arv Z h9 b5 k5 .char 3 [(.int i_1), (.int i_2), (.int i_3)] z0 := V9
 have N9 := Fr.snoc X9 N8 gg7
 have lt_b4 : b4 < h4.size := Exa.lt A4
 have ne12 := lt_ne lt_b4 ge_b5
 have f13 := (kFld K9 (kFld K8 (kFld K6 (kFld K5 F_b4_coder nw0) (nwL ne12 nw0)) (nwL ne12 nw0)) (nwL ne12 nw0))
 have f14 := (kExa K9 (kExa K8 (kExa K6 (kExa K5 A4))))
 have f15 := (kFld K9 (kFld K8 (kFld K6 (kFld K5 F_b4_value nw0) (nwL ne12 nw0)) (nwL ne12 nw0)) (nwL ne12 nw0))
 have f16 := (kOld K9 (kOld K8 (kOld K6 (kOld K5 (kOld K4 O0 na0) na0) (naG gg7 na0)) (naG gg7 na0)) (naG gg7 na0))
 have gg17 := Nat.le_trans Z0 ge_b4
 have sz_0_2 := (Nat.le_trans K4.1 K5.1)
 have sz_0_3 := (Nat.le_trans sz_0_2 K6.1)
 have sz_0_4 := (Nat.le_trans sz_0_3 K8.1)
 have sz_0_5 := (Nat.le_trans sz_0_4 K9.1)
 obtain ⟨_, T11, L11, X11, hQ11, st11⟩ := own_init X9 hx hZ rfl hown (w9 hw) (w10 hw) (w7 hw) (w11 hw) (by decide) (r92__init_ l Z a0 hw [] b4 b5 i_1 i_2 i_3 k5 i_10 h9 n0 (Nat.le_trans Z0 sz_0_5) V9 sCS S__assertionsDisabled S_HI_BYTE_SHIFT S_LO_BYTE_SHIFT f13 f14 f15 f16 hp6 hp7 hp8 hp9 hp4 hp5 gg17) e9 (W := 1) (by decide) (g := (mkF m 68 #[vi 3, vi i_1, vi i_2, vi i_3] [(.ref b5), (.ref b4), (.ref b4)])) rfl hml.symm (argsL := [(.ref b5)]) (rest := [(.ref b4)]) (lenOf pd_10 rfl) rfl rfl (own_wr rfl rfl) (hb hby d417)
 obtain ⟨b2_1_9_7_5_11, k2_1_9_7_5_11, rfl, N11q, K11, Q11_0, Q11_1, Q11_2, Q11_3⟩ := hQ11
 have N11 := Fr.app N9 N11q
 have C0 := (KL.refl h0 []).trans K4 na0
 have C1 := C0.trans K5 na0
 have C2 := C1.trans K6 (naO (Or.inr (Nat.le_trans K4.1 ge_b5)) na0)
 have C3 := C2.trans K8 (naO (Or.inr (Nat.le_trans K4.1 ge_b5)) na0)
 have C4 := C3.trans K9 (naO (Or.inr (Nat.le_trans K4.1 ge_b5)) na0)
 have C5 := C4.trans K11 (naO (Or.inr ge_b4) (naO (Or.inr ge_b4) na0))
 have sz_1_3 := (Nat.le_trans K5.1 K6.1)
 have sz_1_4 := (Nat.le_trans sz_1_3 K8.1)
 have sz_1_5 := (Nat.le_trans sz_1_4 K9.1)
 have ne19 := lt_ne (Nat.lt_of_lt_of_le lt_b4 sz_1_5) Q11_0
 have f20 := (kExa K11 f14)
 refine ⟨T11, _, some (.ref b4), X11, (fun h => by cases h <;> rfl), ?_, fun fs hr => ?_⟩
 · show Q_r91_make Z i_1 i_2 i_3 i_10 h0 n0 _ T11.heap _
   exact ⟨b4, b2_1_9_7_5_11, k2_1_9_7_5_11, rfl, N11, C5, ge_b4, (Nat.le_trans sz_0_5 Q11_0), ne19, f20, Q11_2, Q11_1, Q11_3⟩
 refine t_iloadN 1 X0.here hx hby d113 rfl rfl ?_
 refine t_ifYes (pc := 1) 15 X0.here hx hby d114 (by decide) (by decide) (by decide) ?_
 refine t_iloadN 16 X0.here hx hby d151 rfl rfl ?_
 refine t_iconst 17 (r := 1) X0.here hx hby d152 (by decide) rfl ?_
 refine t_icmpYes (pc := 17) 25 X0.here hx hby d153 (by decide) (by decide) (by decide) ?_
 refine t_iloadN 26 X0.here hx hby d289 rfl rfl ?_
 refine t_iconst 27 (r := 2) X0.here hx hby d290 (by decide) rfl ?_
 refine t_icmpYes (pc := 27) 49 X0.here hx hby d291 (by decide) (by decide) (by decide) ?_
 refine st4 _ ?_
 refine t_dup 53 X4.here hx hby d402 rfl rfl ?_
 refine t_iconst 54 (r := 3) X4.here hx hby d403 (by decide) rfl ?_
 refine st5 _ ?_
 refine t_dup 57 X5.here hx hby d405 rfl rfl ?_
 refine t_iconst 58 (r := 0) X5.here hx hby d406 (by decide) rfl ?_
 refine t_iloadN 59 X5.here hx hby d407 rfl rfl ?_
 refine st6 _ ?_
 refine t_dup 61 X6.here hx hby d409 rfl rfl ?_
 refine t_iconst 62 (r := 1) X6.here hx hby d410 (by decide) rfl ?_
 refine t_iloadN 63 X6.here hx hby d411 rfl rfl ?_
 refine st8 _ ?_
 refine t_dup 65 X8.here hx hby d413 rfl rfl ?_
 refine t_iconst 66 (r := 2) X8.here hx hby d414 (by decide) rfl ?_
 refine t_iloadN 67 X8.here hx hby d415 rfl rfl ?_
 refine st9 _ ?_
 refine st11 _ ?_
 jvm_step X11.here [X11.here.top, hx, (hb hby d418), X11.method', hret, Value.isRef, FieldType.isReference]
 first | (intro acts; rw [hr _ acts rfl rfl rfl]) | rw [hr _ _ rfl rfl rfl]
 exact Steps.refl _
theorem law_a3_c (l : Launch) (Z : State) (a0 : Array Value) (hw : HW Z a0) (ws : List Jvm.Cond) (p0 p1 p2 p3 cs : Int32) (fm : Value) (st_EMPTY st_DAYS st_MONTHS st_YEARS : Addr) (h0 : Heap) (n0 : Nat) (Z0 : n0 ≤ h0.size) (ha : ¬ ((255 : Int32) < (own_ch p1))) (hbb : ¬ ((255 : Int32) < (own_ch p2))) (hcc : (255 : Int32) < (own_ch p3)) (hcs : ¬ (cs = (0 : Int32))) (hln : (p0 &&& (3 : Int32)) = (3 : Int32)) (hbit : (((p0.toUInt32 >>> ((2 : Int32) &&& 31).toUInt32).toInt32) &&& (1 : Int32)) = (0 : Int32)) (sCS : SCS Z cs) (S__assertionsDisabled : Sa5 Z (.int 1)) (S_HI_BYTE_SHIFT : Sa6 Z z0) (S_LO_BYTE_SHIFT : Sa7 Z (.int 8)) (O0 : Old Z n0 h0) (S_EMPTY : Sa4 Z (.ref st_EMPTY)) (E_st_EMPTY : Ex1 Z h0 st_EMPTY) (F_st_EMPTY_value : Fd2 Z h0 st_EMPTY .null) :
    LawM l Z ws p0 p1 p2 p3 h0 n0 := by
 refine own_bodyH (k := 4) (n := 16) (y := x) (Q := fun v _ L => Q_law n0 v L) (own_EW hw) (plainFor_of_name pn_PaymentFrequencyUnitOfPinLaw855) (ef_law p0 p1 p2 p3) (by decide) (by decide) ?_
 intro p e s m below meth c s₁ hx hby hml hown hnm hret hZ e0 hS0 hk0 X0 hC0 hSF0
 have N0 := Fr.nil n0
 obtain ⟨_, T1, L1, X1, hQ1, st1⟩ := own_static X0 hx hZ hown (w1 hw) (w2 hw) (w3 hw) (w4 hw) (by decide) (r91_make l Z a0 hw [] (own_ch p1) (own_ch p2) (own_ch p3) cs h0 n0 Z0 (own_m16a p1) (own_m16b p1) (own_m16a p2) (own_m16b p2) (own_m16a p3) (own_m16b p3) sCS S__assertionsDisabled S_HI_BYTE_SHIFT S_LO_BYTE_SHIFT O0 hcs ha hbb hcc) e0 (W := 0) (by decide) (g := (mkF m 102 #[vi p0, vi p1, vi p2, vi p3, vi 3, vi ((own_ch p1)), vi ((own_ch p2)), vi ((own_ch p3)), .unset, .unset, .unset] [(.int (own_ch p3)), (.int (own_ch p2)), (.int (own_ch p1)), (.int 3)])) rfl hml.symm (argsL := [(.int 3), (.int (own_ch p1)), (.int (own_ch p2)), (.int (own_ch p3))]) (rest := []) (lenOf pd_11 rfl) rfl rfl (own_wr rfl rfl) (hb hby at_102)
 obtain ⟨b4_1, b2_1_9_7_5_11_1, k2_1_9_7_5_11_1, rfl, N1q, K1, Q1_0, Q1_1, Q1_2, Q1_3, Q1_4, Q1_5, Q1_6⟩ := hQ1
 have N1 := Fr.app N0 N1q
 have Ck0 := own_chK K1 na0 (CHr.refl hC0).1
 have Ah1 := (CHr.refl hC0).trans Ck0.1
 have f5 := (kOld K1 O0 na0)
 obtain ⟨_, T4, L4, X4, hQ4, st4⟩ := own_static X1 hx hZ hown (w27 hw) (w28 hw) (w29 hw) (w30 hw) (by decide) (r68_unitOf l Z a0 hw [] b4_1 b2_1_9_7_5_11_1 ((own_ch p1).toInt8.toInt32) (((own_ch p1) >>> ((8 : Int32) &&& 31)).toInt8.toInt32) ((own_ch p2).toInt8.toInt32) (((own_ch p2) >>> ((8 : Int32) &&& 31)).toInt8.toInt32) ((own_ch p3).toInt8.toInt32) (((own_ch p3) >>> ((8 : Int32) &&& 31)).toInt8.toInt32) k2_1_9_7_5_11_1 cs st_EMPTY T1.heap n0 (Nat.le_trans Z0 K1.1) Q1_3 Q1_4 Q1_6 sCS Q1_5 f5 hcs S_EMPTY) rfl (W := 0) (by decide) (g := (mkF m 109 #[vi p0, vi p1, vi p2, vi p3, vi 3, vi ((own_ch p1)), vi ((own_ch p2)), vi ((own_ch p3)), vr b4_1, .unset, .unset] [(.ref b4_1)])) rfl hml.symm (argsL := [(.ref b4_1)]) (rest := []) (lenOf pd_12 rfl) rfl rfl (own_wr rfl rfl) (hb hby at_109)
 obtain ⟨rfl, N4q, e4⟩ := hQ4
 have N4 := Fr.app N1 N4q
 obtain ⟨_, T6, L6, X6, hQ6, st6⟩ := own_static X4 hx hZ hown (w47 hw) (w48 hw) (w3 hw) (w49 hw) (by decide) (r70_expected l Z a0 hw [] (own_ch p1) T1.heap n0 (Nat.le_trans Z0 K1.1)) e4 (W := 0) (by decide) (g := (mkF m 118 #[vi p0, vi p1, vi p2, vi p3, vi 3, vi ((own_ch p1)), vi ((own_ch p2)), vi ((own_ch p3)), vr b4_1, vr st_EMPTY, .unset] [(.int (own_ch p1)), (.int 3)])) rfl hml.symm (argsL := [(.int 3), (.int (own_ch p1))]) (rest := []) (lenOf pd_13 rfl) rfl rfl (own_wr rfl rfl) (hb hby at_118)
 obtain ⟨rfl, N6q, e6⟩ := hQ6
 have N6 := Fr.app N4 N6q
 have f8 := (kFld K1 F_st_EMPTY_value nw0)
 have f9 := (kExa K1 E_st_EMPTY)
 obtain ⟨_, T7, L7, X7, hQ7, st7⟩ := own_virtual X6 hx hZ hown (w50 hw) (w51 hw) (nfS hZ (w53 hw)) (w53 hw) (w52 hw) (w44 hw) (w54 hw) (by decide) (r15_isPresent l Z a0 hw [] st_EMPTY T1.heap n0 (Nat.le_trans Z0 K1.1) f8) e6 f9 (W := 0) (by decide) (g := (mkF m 130 #[vi p0, vi p1, vi p2, vi p3, vi 3, vi ((own_ch p1)), vi ((own_ch p2)), vi ((own_ch p3)), vr b4_1, vr st_EMPTY, .val .null] [(.ref st_EMPTY)])) rfl hml.symm (argsL := []) (rest := []) (lenOf pd_3 rfl) rfl rfl (own_wr rfl rfl) (hb hby at_130)
 obtain ⟨rfl, N7q, e7⟩ := hQ7
 have N7 := Fr.app N6 N7q
 refine ⟨T7, _, some (.int 1), _, _, X7, hS0, (by rw [e7]; exact (Nat.le_trans hk0 K1.1)), (fun h => by cases h <;> rfl), ?_, (by rw [e7]; exact Ah1), hZ, fun fs hr => ?_⟩
 · show Q_law n0 _ _
   exact ⟨rfl, N7⟩
 refine t_iloadN 1 X0.here hx hby at_0 rfl rfl ?_
 refine t_iconst 2 (r := 3) X0.here hx hby at_1 (by decide) rfl ?_
 refine t_iand 3 (r := 3) X0.here hx hby at_2 hln rfl ?_
 refine t_istore (pc' := 5) (L' := #[vi p0, vi p1, vi p2, vi p3, vi 3, .unset, .unset, .unset, .unset, .unset, .unset]) X0.here hx hby at_3 rfl rfl ?_
 refine t_iloadN 6 X0.here hx hby at_5 rfl rfl ?_
 refine X0.ldcInt hx hown (mvT hZ (w0 hw)) (g := (mkF m 6 #[vi p0, vi p1, vi p2, vi p3, vi 3, .unset, .unset, .unset, .unset, .unset, .unset] [(.int p1)])) rfl (hb hby at_6) _ ?_
 refine t_iand 9 (r := (own_ch p1)) X0.here hx hby at_8 (Eq.refl (own_ch p1)) rfl ?_
 refine t_i2c 10 (r := (own_ch p1)) X0.here hx hby at_9 (own_c2d (own_m16a p1) (own_m16b p1)) rfl ?_
 refine t_istore (pc' := 12) (L' := #[vi p0, vi p1, vi p2, vi p3, vi 3, vi ((own_ch p1)), .unset, .unset, .unset, .unset, .unset]) X0.here hx hby at_10 rfl rfl ?_
 refine t_iloadN 13 X0.here hx hby at_12 rfl rfl ?_
 refine t_iconst 14 (r := 2) X0.here hx hby at_13 (by decide) rfl ?_
 refine t_iushr 15 X0.here hx hby at_14 rfl rfl ?_
 refine t_iconst 16 (r := 1) X0.here hx hby at_15 (by decide) rfl ?_
 refine t_iand 17 (r := 0) X0.here hx hby at_16 hbit rfl ?_
 refine t_ifYes (pc := 17) 80 X0.here hx hby at_17 (by decide) (by decide) (by decide) ?_
 refine t_iloadN 81 X0.here hx hby at_80 rfl rfl ?_
 refine X0.ldcInt hx hown (mvT hZ (w0 hw)) (g := (mkF m 81 #[vi p0, vi p1, vi p2, vi p3, vi 3, vi ((own_ch p1)), .unset, .unset, .unset, .unset, .unset] [(.int p2)])) rfl (hb hby at_81) _ ?_
 refine t_iand 84 (r := (own_ch p2)) X0.here hx hby at_83 (Eq.refl (own_ch p2)) rfl ?_
 refine t_i2c 85 (r := (own_ch p2)) X0.here hx hby at_84 (own_c2d (own_m16a p2) (own_m16b p2)) rfl ?_
 refine t_istore (pc' := 87) (L' := #[vi p0, vi p1, vi p2, vi p3, vi 3, vi ((own_ch p1)), vi ((own_ch p2)), .unset, .unset, .unset, .unset]) X0.here hx hby at_85 rfl rfl ?_
 refine t_iloadN 88 X0.here hx hby at_87 rfl rfl ?_
 refine X0.ldcInt hx hown (mvT hZ (w0 hw)) (g := (mkF m 88 #[vi p0, vi p1, vi p2, vi p3, vi 3, vi ((own_ch p1)), vi ((own_ch p2)), .unset, .unset, .unset, .unset] [(.int p3)])) rfl (hb hby at_88) _ ?_
 refine t_iand 91 (r := (own_ch p3)) X0.here hx hby at_90 (Eq.refl (own_ch p3)) rfl ?_
 refine t_i2c 92 (r := (own_ch p3)) X0.here hx hby at_91 (own_c2d (own_m16a p3) (own_m16b p3)) rfl ?_
 refine t_istore (pc' := 94) (L' := #[vi p0, vi p1, vi p2, vi p3, vi 3, vi ((own_ch p1)), vi ((own_ch p2)), vi ((own_ch p3)), .unset, .unset, .unset]) X0.here hx hby at_92 rfl rfl ?_
 refine t_iload 96 X0.here hx hby at_94 rfl rfl ?_
 refine t_iload 98 X0.here hx hby at_96 rfl rfl ?_
 refine t_iload 100 X0.here hx hby at_98 rfl rfl ?_
 refine t_iload 102 X0.here hx hby at_100 rfl rfl ?_
 refine st1 _ ?_
 refine t_astore (pc' := 107) (L' := #[vi p0, vi p1, vi p2, vi p3, vi 3, vi ((own_ch p1)), vi ((own_ch p2)), vi ((own_ch p3)), vr b4_1, .unset, .unset]) X1.here hx hby at_105 rfl rfl rfl ?_
 refine t_aload 109 X1.here hx hby at_107 rfl rfl rfl ?_
 refine st4 _ ?_
 refine t_astore (pc' := 114) (L' := #[vi p0, vi p1, vi p2, vi p3, vi 3, vi ((own_ch p1)), vi ((own_ch p2)), vi ((own_ch p3)), vr b4_1, vr st_EMPTY, .unset]) X4.here hx hby at_112 rfl rfl rfl ?_
 refine t_iload 116 X4.here hx hby at_114 rfl rfl ?_
 refine t_iload 118 X4.here hx hby at_116 rfl rfl ?_
 refine st6 _ ?_
 refine t_astore (pc' := 123) (L' := #[vi p0, vi p1, vi p2, vi p3, vi 3, vi ((own_ch p1)), vi ((own_ch p2)), vi ((own_ch p3)), vr b4_1, vr st_EMPTY, .val .null]) X6.here hx hby at_121 rfl rfl rfl ?_
 refine t_aload 125 X6.here hx hby at_123 rfl rfl rfl ?_
 refine t_ifnonnullNo 128 X6.here hx hby at_125 rfl ?_
 refine t_aload 130 X6.here hx hby at_128 rfl rfl rfl ?_
 refine st7 _ ?_
 refine t_ifNo 136 X7.here hx hby at_133 (by decide) rfl ?_
 refine t_iconst 137 (r := 1) X7.here hx hby at_136 (by decide) rfl ?_
 refine t_goto (pc := 137) 141 X7.here hx hby at_137 (by decide) (by decide) ?_
 exact retN X7 hx (t := .boolean) hret (by simp) (hb hby at_141) hr
def WS_r101_compress (Z : State) (o2 : Addr) : List (Addr × Nat) := [(o2, (0 : Int32).toNatClampNeg), (o2, (1 : Int32).toNatClampNeg), (o2, (2 : Int32).toNatClampNeg)]
def Q_r101_compress (Z : State) (o0 o2 : Addr) (i_1 i_2 i_3 : Int32) (k_o0 k_o2 : ClassId) (h0 : Heap) (n0 : Nat) (v : Option Value) (h : Heap) (L : List Loc) : Prop := v = some (.int 3) ∧ Fr n0 L ∧ KL h0 h (WS_r101_compress Z o2) ∧ Arv Z h o2 k_o2 .byte 3 [(.int (i_1.toInt8.toInt32)), (.int (i_2.toInt8.toInt32)), (.int (i_3.toInt8.toInt32))] z0
theorem r101_compress (l : Launch) (Z : State) (a0 : Array Value) (hw : HW Z a0) (ws : List Jvm.Cond) (o0 o2 : Addr) (i_1 i_2 i_3 : Int32) (k_o0 k_o2 : ClassId) (h0 : Heap) (n0 : Nat) (Z0 : n0 ≤ h0.size) (V_o0 : Arv Z h0 o0 k_o0 .char 3 [(.int i_1), (.int i_2), (.int i_3)] z0) (hp0 : ¬ ((255 : Int32) < i_1)) (V_o2 : Arv Z h0 o2 k_o2 .byte 3 [z0, z0, z0] z0) (g_o2 : n0 ≤ o2) (ne_o0_o2 : o0 ≠ o2) (hp1 : ¬ ((255 : Int32) < i_2)) (hp2 : ¬ ((255 : Int32) < i_3)) :
    MF l Z y26_compress b27_ 7 (some .int) ws ⟨0, 0, 0, 0⟩ #[(.ref o0), z0, (.ref o2), z0, (.int 3)] h0 (Q_r101_compress Z o0 o2 i_1 i_2 i_3 k_o0 k_o2 h0 n0) := by
 refine own_body (plainFor_of_name pn_StringUTF16906) (ef_15 o0 (0 : Int32) o2 (0 : Int32) (3 : Int32)) (by decide) (by decide) ?_
 intro p e s m below meth c s₁ hx hby hml hown hnm hret hZ hh e0 X0
 have N0 := Fr.nil n0
 obtain ⟨T4, h4, X4, e4, W4, V4, st4⟩ := own_astB X0 hx hZ e0 V_o2 (j := 0) (by decide) 0 rfl (Nat.le_of_ble_eq_true rfl) (g := (mkF m 31 #[vr o0, vi 0, vr o2, vi 0, vi 3, vi 0, vi i_1] [(.int (i_1.toInt8.toInt32)), z0, (.ref o2)])) rfl rfl (hb hby d423)
 rw [show (nar .byte (i_1.toInt8.toInt32)) = (i_1.toInt8.toInt32) from (own_narb _)] at V4
 have K4 := KL.ofW W4
 replace V4 : Arv Z h4 o2 k_o2 .byte 3 [(.int (i_1.toInt8.toInt32)), z0, z0] z0 := V4
 have N4 := Fr.snoc X4 N0 g_o2
 have f5 := (kArv K4 V_o0 (naN (Ne.symm ne_o0_o2) na0))
 obtain ⟨T6, h6, X6, e6, W6, V6, st6⟩ := own_astB X4 hx hZ e4 V4 (j := 1) (by decide) 1 rfl (Nat.le_of_ble_eq_true rfl) (g := (mkF m 31 #[vr o0, vi 1, vr o2, vi 1, vi 3, vi 1, vi i_2] [(.int (i_2.toInt8.toInt32)), (.int 1), (.ref o2)])) rfl rfl (hb hby d423)
 rw [show (nar .byte (i_2.toInt8.toInt32)) = (i_2.toInt8.toInt32) from (own_narb _)] at V6
 have K6 := KL.ofW W6
 replace V6 : Arv Z h6 o2 k_o2 .byte 3 [(.int (i_1.toInt8.toInt32)), (.int (i_2.toInt8.toInt32)), z0] z0 := V6
 have N6 := Fr.snoc X6 N4 g_o2
 have f7 := (kArv K6 f5 (naN (Ne.symm ne_o0_o2) na0))
 obtain ⟨T8, h8, X8, e8, W8, V8, st8⟩ := own_astB X6 hx hZ e6 V6 (j := 2) (by decide) 2 rfl (Nat.le_of_ble_eq_true rfl) (g := (mkF m 31 #[vr o0, vi 2, vr o2, vi 2, vi 3, vi 2, vi i_3] [(.int (i_3.toInt8.toInt32)), (.int 2), (.ref o2)])) rfl rfl (hb hby d423)
 rw [show (nar .byte (i_3.toInt8.toInt32)) = (i_3.toInt8.toInt32) from (own_narb _)] at V8
 have K8 := KL.ofW W8
 replace V8 : Arv Z h8 o2 k_o2 .byte 3 [(.int (i_1.toInt8.toInt32)), (.int (i_2.toInt8.toInt32)), (.int (i_3.toInt8.toInt32))] z0 := V8
 have N8 := Fr.snoc X8 N6 g_o2
 have C0 := (KL.refl h0 (WS_r101_compress Z o2)).trans K4 (naO (own_mi 0 rfl) na0)
 have C1 := C0.trans K6 (naO (own_mi 1 rfl) na0)
 have C2 := C1.trans K8 (naO (own_mi 2 rfl) na0)
 refine ⟨T8, _, some (.int 3), X8, (fun h => by cases h <;> rfl), ?_, fun fs hr => ?_⟩
 · show Q_r101_compress Z o0 o2 i_1 i_2 i_3 k_o0 k_o2 h0 n0 _ T8.heap _
   rw [e8]
   exact ⟨rfl, N8, C2, V8⟩
 refine t_iconst 1 (r := 0) X0.here hx hby d320 (by decide) rfl ?_
 refine t_istore (pc' := 3) (L' := #[vr o0, vi 0, vr o2, vi 0, vi 3, vi 0, .unset]) X0.here hx hby d321 rfl rfl ?_
 refine t_iload 5 X0.here hx hby d322 rfl rfl ?_
 refine t_iload 7 X0.here hx hby d323 rfl rfl ?_
 refine t_icmpNo 10 X0.here hx hby d324 (by decide) rfl ?_
 refine t_aloadN 11 X0.here hx hby d325 rfl rfl rfl ?_
 refine t_iloadN 12 X0.here hx hby d326 rfl rfl ?_
 refine own_aldC (pc' := 13) X0 hx hZ e0 V_o0 (j := 0) (v := (.int i_1)) (by decide) rfl (hb hby d327) rfl ?_
 refine t_istore (pc' := 15) (L' := #[vr o0, vi 0, vr o2, vi 0, vi 3, vi 0, vi i_1]) X0.here hx hby d328 rfl rfl ?_
 refine t_iload 17 X0.here hx hby d329 rfl rfl ?_
 refine t_sipush 20 (r := 255) X0.here hx hby d330 (by decide) rfl ?_
 refine t_icmpYes (pc := 20) 26 X0.here hx hby d331 (flt hp0).2.2.2 (by decide) (by decide) ?_
 refine t_aloadN 27 X0.here hx hby d419 rfl rfl rfl ?_
 refine t_iloadN 28 X0.here hx hby d420 rfl rfl ?_
 refine t_iload 30 X0.here hx hby d421 rfl rfl ?_
 refine t_i2b 31 X0.here hx hby d422 rfl rfl ?_
 refine st4 _ ?_
 refine t_iinc (pc' := 35) (L' := #[vr o0, vi 1, vr o2, vi 0, vi 3, vi 0, vi i_1]) X4.here hx hby d424 rfl (by first | rfl | decide) rfl ?_
 refine t_iinc (pc' := 38) (L' := #[vr o0, vi 1, vr o2, vi 1, vi 3, vi 0, vi i_1]) X4.here hx hby d425 rfl (by first | rfl | decide) rfl ?_
 refine t_iinc (pc' := 41) (L' := #[vr o0, vi 1, vr o2, vi 1, vi 3, vi 1, vi i_1]) X4.here hx hby d426 rfl (by first | rfl | decide) rfl ?_
 refine t_goto (pc := 41) 3 X4.here hx hby d427 (by decide) (by decide) ?_
 refine t_iload 5 X4.here hx hby d322 rfl rfl ?_
 refine t_iload 7 X4.here hx hby d323 rfl rfl ?_
 refine t_icmpNo 10 X4.here hx hby d324 (by decide) rfl ?_
 refine t_aloadN 11 X4.here hx hby d325 rfl rfl rfl ?_
 refine t_iloadN 12 X4.here hx hby d326 rfl rfl ?_
 refine own_aldC (pc' := 13) X4 hx hZ e4 f5 (j := 1) (v := (.int i_2)) (by decide) rfl (hb hby d327) rfl ?_
 refine t_istore (pc' := 15) (L' := #[vr o0, vi 1, vr o2, vi 1, vi 3, vi 1, vi i_2]) X4.here hx hby d328 rfl rfl ?_
 refine t_iload 17 X4.here hx hby d329 rfl rfl ?_
 refine t_sipush 20 (r := 255) X4.here hx hby d330 (by decide) rfl ?_
 refine t_icmpYes (pc := 20) 26 X4.here hx hby d331 (flt hp1).2.2.2 (by decide) (by decide) ?_
 refine t_aloadN 27 X4.here hx hby d419 rfl rfl rfl ?_
 refine t_iloadN 28 X4.here hx hby d420 rfl rfl ?_
 refine t_iload 30 X4.here hx hby d421 rfl rfl ?_
 refine t_i2b 31 X4.here hx hby d422 rfl rfl ?_
 refine st6 _ ?_
 refine t_iinc (pc' := 35) (L' := #[vr o0, vi 2, vr o2, vi 1, vi 3, vi 1, vi i_2]) X6.here hx hby d424 rfl (by first | rfl | decide) rfl ?_
 refine t_iinc (pc' := 38) (L' := #[vr o0, vi 2, vr o2, vi 2, vi 3, vi 1, vi i_2]) X6.here hx hby d425 rfl (by first | rfl | decide) rfl ?_
 refine t_iinc (pc' := 41) (L' := #[vr o0, vi 2, vr o2, vi 2, vi 3, vi 2, vi i_2]) X6.here hx hby d426 rfl (by first | rfl | decide) rfl ?_
 refine t_goto (pc := 41) 3 X6.here hx hby d427 (by decide) (by decide) ?_
 refine t_iload 5 X6.here hx hby d322 rfl rfl ?_
 refine t_iload 7 X6.here hx hby d323 rfl rfl ?_
 refine t_icmpNo 10 X6.here hx hby d324 (by decide) rfl ?_
 refine t_aloadN 11 X6.here hx hby d325 rfl rfl rfl ?_
 refine t_iloadN 12 X6.here hx hby d326 rfl rfl ?_
 refine own_aldC (pc' := 13) X6 hx hZ e6 f7 (j := 2) (v := (.int i_3)) (by decide) rfl (hb hby d327) rfl ?_
 refine t_istore (pc' := 15) (L' := #[vr o0, vi 2, vr o2, vi 2, vi 3, vi 2, vi i_3]) X6.here hx hby d328 rfl rfl ?_
 refine t_iload 17 X6.here hx hby d329 rfl rfl ?_
 refine t_sipush 20 (r := 255) X6.here hx hby d330 (by decide) rfl ?_
 refine t_icmpYes (pc := 20) 26 X6.here hx hby d331 (flt hp2).2.2.2 (by decide) (by decide) ?_
 refine t_aloadN 27 X6.here hx hby d419 rfl rfl rfl ?_
 refine t_iloadN 28 X6.here hx hby d420 rfl rfl ?_
 refine t_iload 30 X6.here hx hby d421 rfl rfl ?_
 refine t_i2b 31 X6.here hx hby d422 rfl rfl ?_
 refine st8 _ ?_
 refine t_iinc (pc' := 35) (L' := #[vr o0, vi 3, vr o2, vi 2, vi 3, vi 2, vi i_3]) X8.here hx hby d424 rfl (by first | rfl | decide) rfl ?_
 refine t_iinc (pc' := 38) (L' := #[vr o0, vi 3, vr o2, vi 3, vi 3, vi 2, vi i_3]) X8.here hx hby d425 rfl (by first | rfl | decide) rfl ?_
 refine t_iinc (pc' := 41) (L' := #[vr o0, vi 3, vr o2, vi 3, vi 3, vi 3, vi i_3]) X8.here hx hby d426 rfl (by first | rfl | decide) rfl ?_
 refine t_goto (pc := 41) 3 X8.here hx hby d427 (by decide) (by decide) ?_
 refine t_iload 5 X8.here hx hby d322 rfl rfl ?_
 refine t_iload 7 X8.here hx hby d323 rfl rfl ?_
 refine t_icmpYes (pc := 7) 44 X8.here hx hby d324 (by decide) (by decide) (by decide) ?_
 refine t_iload 46 X8.here hx hby d428 rfl rfl ?_
 exact retI X8 hx hret (hb hby d429) hr
def Q_r100_compress (Z : State) (o0 : Addr) (i_2 i_3 i_4 : Int32) (k_o0 : ClassId) (h0 : Heap) (n0 : Nat) (v : Option Value) (h : Heap) (L : List Loc) : Prop := ∃ b1 : Addr, ∃ k1 : ClassId, v = some (.ref b1) ∧ Fr n0 L ∧ KL h0 h [] ∧ h0.size ≤ b1 ∧ Arv Z h b1 k1 .byte 3 [(.int (i_2.toInt8.toInt32)), (.int (i_3.toInt8.toInt32)), (.int (i_4.toInt8.toInt32))] z0
theorem r100_compress (l : Launch) (Z : State) (a0 : Array Value) (hw : HW Z a0) (ws : List Jvm.Cond) (o0 : Addr) (i_2 i_3 i_4 : Int32) (k_o0 : ClassId) (h0 : Heap) (n0 : Nat) (Z0 : n0 ≤ h0.size) (V_o0 : Arv Z h0 o0 k_o0 .char 3 [(.int i_2), (.int i_3), (.int i_4)] z0) (hp0 : ¬ ((255 : Int32) < i_2)) (hp1 : ¬ ((255 : Int32) < i_3)) (hp2 : ¬ ((255 : Int32) < i_4)) :
    MF l Z y30_compress b26_ 6 (some (.array .byte)) ws ⟨1, 1, 3, 18⟩ #[(.ref o0), z0, (.int 3)] h0 (Q_r100_compress Z o0 i_2 i_3 i_4 k_o0 h0 n0) := by
 refine own_body (plainFor_of_name pn_StringUTF16906) (ef_17 o0 (0 : Int32) (3 : Int32)) (by decide) (by decide) ?_
 intro p e s m below meth c s₁ hx hby hml hown hnm hret hZ hh e0 X0
 have N0 := Fr.nil n0
 obtain ⟨T1, h1, k1, X1, e1, E1, A1, st1⟩ := newP (aty := .byte) X0 hx hZ (w20 hw) e0 (g := (mkF m 1 #[vr o0, vi 0, vi 3, .unset, .unset, .unset] [(.int 3)])) rfl (hb hby d312) rfl (by decide) (cap := 3) (by decide) (by decide) (by decide) (by decide)
 obtain ⟨b1, g1⟩ : ∃ z, z = h0.size := ⟨_, rfl⟩
 rw [← g1] at A1 st1
 have ge_b1 : h0.size ≤ b1 := Nat.le_of_eq g1.symm
 have K1 := KL.ofE E1
 have V1 : Arv Z h1 b1 k1 .byte 3 [z0, z0, z0] z0 := (Arv.new A1 (by decide)).pad (pad_rep [] z0 3)
 have f6 := (kArv K1 V_o0 na0)
 have gg7 := Nat.le_trans Z0 ge_b1
 have lt_o0 : o0 < h0.size := Arv.lt V_o0
 have ne8 := lt_ne lt_o0 ge_b1
 obtain ⟨_, T5, L5, X5, hQ5, st5⟩ := own_static X1 hx hZ hown (w62 hw) (w63 hw) (w60 hw) (w64 hw) (by decide) (r101_compress l Z a0 hw [] o0 b1 i_2 i_3 i_4 k_o0 k1 h1 n0 (Nat.le_trans Z0 K1.1) f6 hp0 V1 gg7 ne8 hp1 hp2) e1 (W := 0) (by decide) (g := (mkF m 9 #[vr o0, vi 0, vi 3, vr b1, .unset, .unset] [(.int 3), z0, (.ref b1), z0, (.ref o0)])) rfl hml.symm (argsL := [(.ref o0), z0, (.ref b1), z0, (.int 3)]) (rest := []) (lenOf pd_22 rfl) rfl rfl (own_wr rfl rfl) (hb hby d319)
 obtain ⟨rfl, N5q, K5, Q5_0⟩ := hQ5
 have N5 := Fr.app N0 N5q
 have C0 := (KL.refl h0 []).trans K1 na0
 have C1 := C0.trans K5 (naOM 3 rfl ge_b1 na0)
 refine ⟨T5, _, some (.ref b1), X5, (fun h => by cases h <;> rfl), ?_, fun fs hr => ?_⟩
 · show Q_r100_compress Z o0 i_2 i_3 i_4 k_o0 h0 n0 _ T5.heap _
   exact ⟨b1, k1, rfl, N5, C1, ge_b1, Q5_0⟩
 refine t_iloadN 1 X0.here hx hby d311 rfl rfl ?_
 refine st1 _ ?_
 refine t_astoreN (pc' := 4) (L' := #[vr o0, vi 0, vi 3, vr b1, .unset, .unset]) X1.here hx hby d313 rfl rfl rfl ?_
 refine t_aloadN 5 X1.here hx hby d314 rfl rfl rfl ?_
 refine t_iloadN 6 X1.here hx hby d315 rfl rfl ?_
 refine t_aloadN 7 X1.here hx hby d316 rfl rfl rfl ?_
 refine t_iconst 8 (r := 0) X1.here hx hby d317 (by decide) rfl ?_
 refine t_iloadN 9 X1.here hx hby d318 rfl rfl ?_
 refine st5 _ ?_
 refine t_istore (pc' := 14) (L' := #[vr o0, vi 0, vi 3, vr b1, vi 3, .unset]) X5.here hx hby d334 rfl rfl ?_
 refine t_iload 16 X5.here hx hby d335 rfl rfl ?_
 refine t_iloadN 17 X5.here hx hby d336 rfl rfl ?_
 refine t_icmpYes (pc := 17) 57 X5.here hx hby d337 (by decide) (by decide) (by decide) ?_
 refine t_aloadN 58 X5.here hx hby d430 rfl rfl rfl ?_
 jvm_step X5.here [X5.here.top, hx, (hb hby d431), X5.method', hret, Value.isRef, FieldType.isReference]
 first | (intro acts; rw [hr _ acts rfl rfl rfl]) | rw [hr _ _ rfl rfl rfl]
 exact Steps.refl _
def Q_r102_coderFromArrayLen (Z : State) (o0 : Addr) (i_1 i_2 i_3 : Int32) (k_o0 : ClassId) (h0 : Heap) (n0 : Nat) (v : Option Value) (h : Heap) (L : List Loc) : Prop := v = some z0 ∧ Fr n0 L ∧ h = h0
theorem r102_coderFromArrayLen (l : Launch) (Z : State) (a0 : Array Value) (hw : HW Z a0) (ws : List Jvm.Cond) (o0 : Addr) (i_1 i_2 i_3 : Int32) (k_o0 : ClassId) (h0 : Heap) (n0 : Nat) (Z0 : n0 ≤ h0.size) (V_o0 : Arv Z h0 o0 k_o0 .byte 3 [(.int i_1), (.int i_2), (.int i_3)] z0) :
    MF l Z y31_coderFromArrayLen b31_ 2 (some .byte) ws ⟨0, 0, 0, 0⟩ #[(.ref o0), (.int 3)] h0 (Q_r102_coderFromArrayLen Z o0 i_1 i_2 i_3 k_o0 h0 n0) := by
 refine own_body (plainFor_of_name pn_StringUTF16906) (ef_4 o0 (3 : Int32)) (by decide) (by decide) ?_
 intro p e s m below meth c s₁ hx hby hml hown hnm hret hZ hh e0 X0
 have N0 := Fr.nil n0
 refine ⟨s₁, _, some z0, X0, (fun h => by cases h <;> rfl), ?_, fun fs hr => ?_⟩
 · show Q_r102_coderFromArrayLen Z o0 i_1 i_2 i_3 k_o0 h0 n0 _ s₁.heap _
   rw [e0]
   exact ⟨rfl, N0, rfl⟩
 refine t_iloadN 1 X0.here hx hby d387 rfl rfl ?_
 refine t_aloadN 2 X0.here hx hby d388 rfl rfl rfl ?_
 refine own_arlen (pc' := 3) X0 hx hZ e0 V_o0 (hb hby d389) rfl ?_
 refine t_isub 4 (r := 0) X0.here hx hby d390 (by decide : ((3 : Int32) - (3 : Int32)) = (0 : Int32)) rfl ?_
 refine t_bipush 6 (r := 31) X0.here hx hby d391 (by decide) rfl ?_
 refine t_iushr 7 (r := 0) X0.here hx hby d392 (by decide : (((0 : Int32).toUInt32 >>> ((31 : Int32) &&& 31).toUInt32).toInt32) = (0 : Int32)) rfl ?_
 refine t_i2b 8 (r := 0) X0.here hx hby d393 (by decide : ((0 : Int32).toInt8.toInt32) = (0 : Int32)) rfl ?_
 exact retN X0 hx (t := .byte) hret (by simp) (hb hby d394) hr
def WS_r99__init_ (Z : State) (o0 : Addr) : List (Addr × Nat) := [(o0, (sl1 Z)), (o0, (sl0 Z))]
def Q_r99__init_ (Z : State) (o0 o1 : Addr) (i_2 i_4 i_5 i_6 : Int32) (k_o1 : ClassId) (h0 : Heap) (n0 : Nat) (v : Option Value) (h : Heap) (L : List Loc) : Prop := ∃ b1_7 : Addr, ∃ k1_7 : ClassId, v = none ∧ Fr n0 L ∧ KL h0 h (WS_r99__init_ Z o0) ∧ h0.size ≤ b1_7 ∧ Fd1 Z h o0 z0 ∧ Fd0 Z h o0 (.ref b1_7) ∧ Arv Z h b1_7 k1_7 .byte 3 [(.int (i_4.toInt8.toInt32)), (.int (i_5.toInt8.toInt32)), (.int (i_6.toInt8.toInt32))] z0
theorem r99__init_ (l : Launch) (Z : State) (a0 : Array Value) (hw : HW Z a0) (ws : List Jvm.Cond) (o0 o1 : Addr) (i_2 i_4 i_5 i_6 : Int32) (k_o1 : ClassId) (h0 : Heap) (n0 : Nat) (Z0 : n0 ≤ h0.size) (sCS : SCS Z i_2) (O0 : Old Z n0 h0) (hp0 : ¬ (i_2 = (0 : Int32))) (V_o1 : Arv Z h0 o1 k_o1 .char 3 [(.int i_4), (.int i_5), (.int i_6)] z0) (hp1 : ¬ ((255 : Int32) < i_4)) (hp2 : ¬ ((255 : Int32) < i_5)) (hp3 : ¬ ((255 : Int32) < i_6)) (F_o0_coder : Fd1 Z h0 o0 z0) (E_o0 : Ex0 Z h0 o0) (g_o0 : n0 ≤ o0) (F_o0_value : Fd0 Z h0 o0 .null) :
    MF l Z y11__init_ b13_ 6 none ws ⟨2, 1, 3, 35⟩ #[(.ref o0), (.ref o1), z0, (.int 3), .null] h0 (Q_r99__init_ Z o0 o1 i_2 i_4 i_5 i_6 k_o1 h0 n0) := by
 refine own_body (plainFor_of_name pn_String564) (ef_7 o0 o1 (0 : Int32) (3 : Int32)) (by decide) (by decide) ?_
 intro p e s m below meth c s₁ hx hby hml hown hnm hret hZ hh e0 X0
 have N0 := Fr.nil n0
 obtain ⟨T1, X1, e1, st1⟩ := initO X0 hx hZ hown (w16 hw) (w17 hw) (w18 hw) e0 (g := (mkF m 1 #[vr o0, vr o1, vi 0, vi 3, .val .null, .unset] [(.ref o0)])) rfl hml.symm rfl (hb hby d128) (by decide) (W := 0) (own_wr rfl rfl) (by decide)
 obtain ⟨T3, X3, e3, st3⟩ := getS2 X1 hx hZ hown (host := "") (Or.inl (w41 hw)) Via.refl e1 (Sta.ext O0.2 sCS) (g := (mkF m 27 #[vr o0, vr o1, vi 0, vi 3, .val .null, .unset] [])) rfl (hb hby d305)
 obtain ⟨_, T7, L7, X7, hQ7, st7⟩ := own_static X3 hx hZ hown (w58 hw) (w59 hw) (w60 hw) (w61 hw) (by decide) (r100_compress l Z a0 hw [] o1 i_4 i_5 i_6 k_o1 h0 n0 Z0 V_o1 hp1 hp2 hp3) e3 (W := 0) (by decide) (g := (mkF m 36 #[vr o0, vr o1, vi 0, vi 3, .val .null, .unset] [(.int 3), z0, (.ref o1)])) rfl hml.symm (argsL := [(.ref o1), z0, (.int 3)]) (rest := []) (lenOf pd_25 rfl) rfl rfl (own_wr rfl rfl) (hb hby d310)
 obtain ⟨b1_7, k1_7, rfl, N7q, K7, Q7_0, Q7_1⟩ := hQ7
 have N7 := Fr.app N0 N7q
 obtain ⟨_, T9, L9, X9, hQ9, st9⟩ := own_static X7 hx hZ hown (w65 hw) (w66 hw) (w60 hw) (w67 hw) (by decide) (r102_coderFromArrayLen l Z a0 hw [] b1_7 (i_4.toInt8.toInt32) (i_5.toInt8.toInt32) (i_6.toInt8.toInt32) k1_7 T7.heap n0 (Nat.le_trans Z0 K7.1) Q7_1) rfl (W := 1) (by decide) (g := (mkF m 45 #[vr o0, vr o1, vi 0, vi 3, .val .null, vr b1_7] [(.int 3), (.ref b1_7), (.ref o0)])) rfl hml.symm (argsL := [(.ref b1_7), (.int 3)]) (rest := [(.ref o0)]) (lenOf pd_26 rfl) rfl rfl (own_wr rfl rfl) (hb hby d386)
 obtain ⟨rfl, N9q, e9⟩ := hQ9
 have N9 := Fr.app N7 N9q
 have f10 := (kFld K7 F_o0_coder nw0)
 have f11 := (kExa K7 E_o0)
 obtain ⟨T12, h12, X12, e12, W12, st12⟩ := putF X9 hx hZ hown (host := "") (Or.inl (w26 hw)) Via.refl e9 f10 f11 (Or.inr ⟨(w22 hw), rfl, hnm⟩) (w6 hw) (ty := .byte) (by decide) (by decide) (by decide) (g := (mkF m 48 #[vr o0, vr o1, vi 0, vi 3, .val .null, vr b1_7] [z0, (.ref o0)])) rfl rfl (hb hby d395)
 have K12 := KL.ofW W12
 have Fw12 : Fd1 Z h12 o0 z0 := Fld.same W12 f10
 have N12 := Fr.snoc X12 N9 g_o0
 have f13 := (kFld K12 (kFld K7 F_o0_value nw0) (nwR (sn_1 hw) nw0))
 have f14 := (kExa K12 f11)
 obtain ⟨T15, h15, X15, e15, W15, st15⟩ := putF X12 hx hZ hown (host := "") (Or.inl (w25 hw)) Via.refl e12 f13 f14 (Or.inr ⟨(w21 hw), rfl, hnm⟩) (w6 hw) (ty := (.array .byte)) (by decide) rfl rfl (g := (mkF m 54 #[vr o0, vr o1, vi 0, vi 3, .val .null, vr b1_7] [(.ref b1_7), (.ref o0)])) rfl rfl (hb hby d398)
 have K15 := KL.ofW W15
 have Fw15 : Fd0 Z h15 o0 (.ref b1_7) := Fld.same W15 f13
 have N15 := Fr.snoc X15 N12 g_o0
 have C0 := (KL.refl h0 (WS_r99__init_ Z o0)).trans K7 na0
 have C1 := C0.trans K12 (naO (own_mi 0 rfl) na0)
 have C2 := C1.trans K15 (naO (own_mi 1 rfl) na0)
 have f16 := (kFld K15 Fw12 (nwR (sn_0 hw) nw0))
 have lt_o0 : o0 < h0.size := Fld.lt F_o0_coder
 have ne17 := lt_ne lt_o0 Q7_0
 have f18 := (kArv K15 (kArv K12 Q7_1 (naN ne17 na0)) (naN ne17 na0))
 refine ⟨T15, _, none, X15, (fun h => by cases h <;> rfl), ?_, fun fs hr => ?_⟩
 · show Q_r99__init_ Z o0 o1 i_2 i_4 i_5 i_6 k_o1 h0 n0 _ T15.heap _
   rw [e15]
   exact ⟨b1_7, k1_7, rfl, N15, C2, Q7_0, f16, Fw15, f18⟩
 refine t_aloadN 1 X0.here hx hby d127 rfl rfl rfl ?_
 refine st1 _ ?_
 refine t_iloadN 5 X1.here hx hby d129 rfl rfl ?_
 refine t_ifYes (pc := 5) 27 X1.here hx hby d130 (by decide) (by decide) (by decide) ?_
 refine st3 _ ?_
 refine t_ifNo 33 X3.here hx hby d306 ((if0 _ _).trans (feq hp0).1) rfl ?_
 refine t_aloadN 34 X3.here hx hby d307 rfl rfl rfl ?_
 refine t_iloadN 35 X3.here hx hby d308 rfl rfl ?_
 refine t_iloadN 36 X3.here hx hby d309 rfl rfl ?_
 refine st7 _ ?_
 refine t_astore (pc' := 41) (L' := #[vr o0, vr o1, vi 0, vi 3, .val .null, vr b1_7]) X7.here hx hby d382 rfl rfl rfl ?_
 refine t_aloadN 42 X7.here hx hby d383 rfl rfl rfl ?_
 refine t_aload 44 X7.here hx hby d384 rfl rfl rfl ?_
 refine t_iloadN 45 X7.here hx hby d385 rfl rfl ?_
 refine st9 _ ?_
 refine st12 _ ?_
 refine t_aloadN 52 X12.here hx hby d396 rfl rfl rfl ?_
 refine t_aload 54 X12.here hx hby d397 rfl rfl rfl ?_
 refine st15 _ ?_
 exact X15.returnOut hx hret (hb hby d399) hr
def WS_r98__init_ (Z : State) (o0 : Addr) : List (Addr × Nat) := [(o0, (sl1 Z)), (o0, (sl0 Z))]
def Q_r98__init_ (Z : State) (o0 o1 : Addr) (i_1 i_2 i_3 : Int32) (k_o1 : ClassId) (i_4 : Int32) (h0 : Heap) (n0 : Nat) (v : Option Value) (h : Heap) (L : List Loc) : Prop := ∃ b1_7_5 : Addr, ∃ k1_7_5 : ClassId, v = none ∧ Fr n0 L ∧ KL h0 h (WS_r98__init_ Z o0) ∧ h0.size ≤ b1_7_5 ∧ Fd1 Z h o0 z0 ∧ Fd0 Z h o0 (.ref b1_7_5) ∧ Arv Z h b1_7_5 k1_7_5 .byte 3 [(.int (i_1.toInt8.toInt32)), (.int (i_2.toInt8.toInt32)), (.int (i_3.toInt8.toInt32))] z0
theorem r98__init_ (l : Launch) (Z : State) (a0 : Array Value) (hw : HW Z a0) (ws : List Jvm.Cond) (o0 o1 : Addr) (i_1 i_2 i_3 : Int32) (k_o1 : ClassId) (i_4 : Int32) (h0 : Heap) (n0 : Nat) (Z0 : n0 ≤ h0.size) (V_o1 : Arv Z h0 o1 k_o1 .char 3 [(.int i_1), (.int i_2), (.int i_3)] z0) (sCS : SCS Z i_4) (F_o0_coder : Fd1 Z h0 o0 z0) (E_o0 : Ex0 Z h0 o0) (F_o0_value : Fd0 Z h0 o0 .null) (O0 : Old Z n0 h0) (hp0 : ¬ (i_4 = (0 : Int32))) (hp1 : ¬ ((255 : Int32) < i_1)) (hp2 : ¬ ((255 : Int32) < i_2)) (hp3 : ¬ ((255 : Int32) < i_3)) (g_o0 : n0 ≤ o0) :
    MF l Z y12__init_ b12_ 2 none ws ⟨3, 1, 3, 52⟩ #[(.ref o0), (.ref o1)] h0 (Q_r98__init_ Z o0 o1 i_1 i_2 i_3 k_o1 i_4 h0 n0) := by
 refine own_body (plainFor_of_name pn_String564) (ef_5 o0 o1) (by decide) (by decide) ?_
 intro p e s m below meth c s₁ hx hby hml hown hnm hret hZ hh e0 X0
 have N0 := Fr.nil n0
 obtain ⟨_, T5, L5, X5, hQ5, st5⟩ := own_init X0 hx hZ rfl hown (w12 hw) (w13 hw) (w7 hw) (w15 hw) (by decide) (r99__init_ l Z a0 hw [] o0 o1 i_4 i_1 i_2 i_3 k_o1 h0 n0 Z0 sCS O0 hp0 V_o1 hp1 hp2 hp3 F_o0_coder E_o0 g_o0 F_o0_value) e0 (W := 0) (by decide) (g := (mkF m 6 #[vr o0, vr o1] [.null, (.int 3), z0, (.ref o1), (.ref o0)])) rfl hml.symm (argsL := [(.ref o1), z0, (.int 3), .null]) (rest := []) (lenOf pd_9 rfl) rfl rfl (own_wr rfl rfl) (hb hby d126)
 obtain ⟨b1_7_5, k1_7_5, rfl, N5q, K5, Q5_0, Q5_1, Q5_2, Q5_3⟩ := hQ5
 have N5 := Fr.app N0 N5q
 have C0 := (KL.refl h0 (WS_r98__init_ Z o0)).trans K5 (naO (own_mi 0 rfl) (naO (own_mi 1 rfl) na0))
 refine ⟨T5, _, none, X5, (fun h => by cases h <;> rfl), ?_, fun fs hr => ?_⟩
 · show Q_r98__init_ Z o0 o1 i_1 i_2 i_3 k_o1 i_4 h0 n0 _ T5.heap _
   exact ⟨b1_7_5, k1_7_5, rfl, N5, C0, Q5_0, Q5_1, Q5_2, Q5_3⟩
 refine t_aloadN 1 X0.here hx hby d120 rfl rfl rfl ?_
 refine t_aloadN 2 X0.here hx hby d121 rfl rfl rfl ?_
 refine t_iconst 3 (r := 0) X0.here hx hby d122 (by decide) rfl ?_
 refine t_aloadN 4 X0.here hx hby d123 rfl rfl rfl ?_
 refine own_arlen (pc' := 5) X0 hx hZ e0 V_o1 (hb hby d124) rfl ?_
 refine t_aconst_null 6 X0.here hx hby d125 rfl ?_
 refine st5 _ ?_
 exact X5.returnOut hx hret (hb hby d140) hr
def Q_r97_make (Z : State) (i_1 i_2 i_3 i_10 : Int32) (h0 : Heap) (n0 : Nat) (v : Option Value) (h : Heap) (L : List Loc) : Prop := ∃ b4 : Addr, ∃ b1_7_5_11 : Addr, ∃ k1_7_5_11 : ClassId, v = some (.ref b4) ∧ Fr n0 L ∧ KL h0 h [] ∧ h0.size ≤ b4 ∧ h0.size ≤ b1_7_5_11 ∧ b4 ≠ b1_7_5_11 ∧ Ex0 Z h b4 ∧ Fd0 Z h b4 (.ref b1_7_5_11) ∧ Fd1 Z h b4 z0 ∧ Arv Z h b1_7_5_11 k1_7_5_11 .byte 3 [(.int (i_1.toInt8.toInt32)), (.int (i_2.toInt8.toInt32)), (.int (i_3.toInt8.toInt32))] z0
theorem r97_make (l : Launch) (Z : State) (a0 : Array Value) (hw : HW Z a0) (ws : List Jvm.Cond) (i_1 i_2 i_3 i_10 : Int32) (h0 : Heap) (n0 : Nat) (Z0 : n0 ≤ h0.size) (hp0 : ¬ (i_1 < (0 : Int32))) (hp1 : ¬ ((65535 : Int32) < i_1)) (hp2 : ¬ (i_2 < (0 : Int32))) (hp3 : ¬ ((65535 : Int32) < i_2)) (hp4 : ¬ (i_3 < (0 : Int32))) (hp5 : ¬ ((65535 : Int32) < i_3)) (sCS : SCS Z i_10) (O0 : Old Z n0 h0) (hp6 : ¬ (i_10 = (0 : Int32))) (hp7 : ¬ ((255 : Int32) < i_1)) (hp8 : ¬ ((255 : Int32) < i_2)) (hp9 : ¬ ((255 : Int32) < i_3)) :
    MF l Z y13_make b11_ 4 (some (.object "java/lang/String")) ws ⟨4, 3, 10, 66⟩ #[(.int 3), (.int i_1), (.int i_2), (.int i_3)] h0 (Q_r97_make Z i_1 i_2 i_3 i_10 h0 n0) := by
 refine own_body (plainFor_of_name pn_PaymentFrequencyUnitOfPinLaw855) (ef_8 (3 : Int32) i_1 i_2 i_3) (by decide) (by decide) ?_
 intro p e s m below meth c s₁ hx hby hml hown hnm hret hZ hh e0 X0
 have N0 := Fr.nil n0
 obtain ⟨T4, h4, X4, e4, E4, A4, D4, -, st4⟩ := newO X0 hx hZ hown (w5 hw) (w6 hw) (w7 hw) e0 (g := (mkF m 49 #[vi 3, vi i_1, vi i_2, vi i_3] [])) rfl (hb hby d401) (by decide) (by decide)
 obtain ⟨b4, g4⟩ : ∃ z, z = h0.size := ⟨_, rfl⟩
 rw [← g4] at A4 D4 st4
 have ge_b4 : h0.size ≤ b4 := Nat.le_of_eq g4.symm
 have K4 := KL.ofE E4
 have F_b4_value : Fd0 Z h4 b4 .null := D4 (Or.inr (w21 hw)) (ty := (.array .byte)) (by decide)
 have F_b4_coder : Fd1 Z h4 b4 z0 := D4 (Or.inr (w22 hw)) (ty := .byte) (by decide)
 obtain ⟨T5, h5, k5, X5, e5, E5, A5, st5⟩ := newP (aty := .char) X4 hx hZ (w8 hw) e4 (g := (mkF m 54 #[vi 3, vi i_1, vi i_2, vi i_3] [(.int 3), (.ref b4), (.ref b4)])) rfl (hb hby d404) rfl (by decide) (cap := 3) (by decide) (by decide) (by decide) (by decide)
 obtain ⟨b5, g5⟩ : ∃ z, z = h4.size := ⟨_, rfl⟩
 rw [← g5] at A5 st5
 have ge_b5 : h4.size ≤ b5 := Nat.le_of_eq g5.symm
 have K5 := KL.ofE E5
 have V5 : Arv Z h5 b5 k5 .char 3 [z0, z0, z0] z0 := (Arv.new A5 (by decide)).pad (pad_rep [] z0 3)
 obtain ⟨T6, h6, X6, e6, W6, V6, st6⟩ := own_astC X5 hx hZ e5 V5 (j := 0) (by decide) 0 rfl (Nat.le_of_ble_eq_true rfl) (g := (mkF m 59 #[vi 3, vi i_1, vi i_2, vi i_3] [(.int i_1), z0, (.ref b5), (.ref b5), (.ref b4), (.ref b4)])) rfl rfl (hb hby d408)
 rw [show (nar .char i_1) = i_1 from (own_c2d hp0 hp1)] at V6
 have gg7 := Nat.le_trans Z0 (Nat.le_trans K4.1 ge_b5)
 have K6 := KL.ofW W6
 replace V6 : Arv Z h6 b5 k5 .char 3 [(.int i_1), z0, z0] z0 := V6
 have N6 := Fr.snoc X6 N0 gg7
 obtain ⟨T8, h8, X8, e8, W8, V8, st8⟩ := own_astC X6 hx hZ e6 V6 (j := 1) (by decide) 1 rfl (Nat.le_of_ble_eq_true rfl) (g := (mkF m 63 #[vi 3, vi i_1, vi i_2, vi i_3] [(.int i_2), (.int 1), (.ref b5), (.ref b5), (.ref b4), (.ref b4)])) rfl rfl (hb hby d412)
 rw [show (nar .char i_2) = i_2 from (own_c2d hp2 hp3)] at V8
 have K8 := KL.ofW W8
 replace V8 : Arv Z h8 b5 k5 .char 3 [(.int i_1), (.int i_2), z0] z0 := V8
 have N8 := Fr.snoc X8 N6 gg7
 obtain ⟨T9, h9, X9, e9, W9, V9, st9⟩ := own_astC X8 hx hZ e8 V8 (j := 2) (by decide) 2 rfl (Nat.le_of_ble_eq_true rfl) (g := (mkF m 67 #[vi 3, vi i_1, vi i_2, vi i_3] [(.int i_3), (.int 2), (.ref b5), (.ref b5), (.ref b4), (.ref b4)])) rfl rfl (hb hby d416)
 rw [show (nar .char i_3) = i_3 from (own_c2d hp4 hp5)] at V9
 have K9 := KL.ofW W9
 replace V9 : Arv Z h9 b5 k5 .char 3 [(.int i_1), (.int i_2), (.int i_3)] z0 := V9
 have N9 := Fr.snoc X9 N8 gg7
 have lt_b4 : b4 < h4.size := Exa.lt A4
 have ne12 := lt_ne lt_b4 ge_b5
 have f13 := (kFld K9 (kFld K8 (kFld K6 (kFld K5 F_b4_coder nw0) (nwL ne12 nw0)) (nwL ne12 nw0)) (nwL ne12 nw0))
 have f14 := (kExa K9 (kExa K8 (kExa K6 (kExa K5 A4))))
 have f15 := (kFld K9 (kFld K8 (kFld K6 (kFld K5 F_b4_value nw0) (nwL ne12 nw0)) (nwL ne12 nw0)) (nwL ne12 nw0))
 have f16 := (kOld K9 (kOld K8 (kOld K6 (kOld K5 (kOld K4 O0 na0) na0) (naG gg7 na0)) (naG gg7 na0)) (naG gg7 na0))
 have gg17 := Nat.le_trans Z0 ge_b4
 have sz_0_2 := (Nat.le_trans K4.1 K5.1)
 have sz_0_3 := (Nat.le_trans sz_0_2 K6.1)
 have sz_0_4 := (Nat.le_trans sz_0_3 K8.1)
 have sz_0_5 := (Nat.le_trans sz_0_4 K9.1)
 obtain ⟨_, T11, L11, X11, hQ11, st11⟩ := own_init X9 hx hZ rfl hown (w9 hw) (w10 hw) (w7 hw) (w11 hw) (by decide) (r98__init_ l Z a0 hw [] b4 b5 i_1 i_2 i_3 k5 i_10 h9 n0 (Nat.le_trans Z0 sz_0_5) V9 sCS f13 f14 f15 f16 hp6 hp7 hp8 hp9 gg17) e9 (W := 1) (by decide) (g := (mkF m 68 #[vi 3, vi i_1, vi i_2, vi i_3] [(.ref b5), (.ref b4), (.ref b4)])) rfl hml.symm (argsL := [(.ref b5)]) (rest := [(.ref b4)]) (lenOf pd_10 rfl) rfl rfl (own_wr rfl rfl) (hb hby d417)
 obtain ⟨b1_7_5_11, k1_7_5_11, rfl, N11q, K11, Q11_0, Q11_1, Q11_2, Q11_3⟩ := hQ11
 have N11 := Fr.app N9 N11q
 have C0 := (KL.refl h0 []).trans K4 na0
 have C1 := C0.trans K5 na0
 have C2 := C1.trans K6 (naO (Or.inr (Nat.le_trans K4.1 ge_b5)) na0)
 have C3 := C2.trans K8 (naO (Or.inr (Nat.le_trans K4.1 ge_b5)) na0)
 have C4 := C3.trans K9 (naO (Or.inr (Nat.le_trans K4.1 ge_b5)) na0)
 have C5 := C4.trans K11 (naO (Or.inr ge_b4) (naO (Or.inr ge_b4) na0))
 have sz_1_3 := (Nat.le_trans K5.1 K6.1)
 have sz_1_4 := (Nat.le_trans sz_1_3 K8.1)
 have sz_1_5 := (Nat.le_trans sz_1_4 K9.1)
 have ne19 := lt_ne (Nat.lt_of_lt_of_le lt_b4 sz_1_5) Q11_0
 have f20 := (kExa K11 f14)
 refine ⟨T11, _, some (.ref b4), X11, (fun h => by cases h <;> rfl), ?_, fun fs hr => ?_⟩
 · show Q_r97_make Z i_1 i_2 i_3 i_10 h0 n0 _ T11.heap _
   exact ⟨b4, b1_7_5_11, k1_7_5_11, rfl, N11, C5, ge_b4, (Nat.le_trans sz_0_5 Q11_0), ne19, f20, Q11_2, Q11_1, Q11_3⟩
 refine t_iloadN 1 X0.here hx hby d113 rfl rfl ?_
 refine t_ifYes (pc := 1) 15 X0.here hx hby d114 (by decide) (by decide) (by decide) ?_
 refine t_iloadN 16 X0.here hx hby d151 rfl rfl ?_
 refine t_iconst 17 (r := 1) X0.here hx hby d152 (by decide) rfl ?_
 refine t_icmpYes (pc := 17) 25 X0.here hx hby d153 (by decide) (by decide) (by decide) ?_
 refine t_iloadN 26 X0.here hx hby d289 rfl rfl ?_
 refine t_iconst 27 (r := 2) X0.here hx hby d290 (by decide) rfl ?_
 refine t_icmpYes (pc := 27) 49 X0.here hx hby d291 (by decide) (by decide) (by decide) ?_
 refine st4 _ ?_
 refine t_dup 53 X4.here hx hby d402 rfl rfl ?_
 refine t_iconst 54 (r := 3) X4.here hx hby d403 (by decide) rfl ?_
 refine st5 _ ?_
 refine t_dup 57 X5.here hx hby d405 rfl rfl ?_
 refine t_iconst 58 (r := 0) X5.here hx hby d406 (by decide) rfl ?_
 refine t_iloadN 59 X5.here hx hby d407 rfl rfl ?_
 refine st6 _ ?_
 refine t_dup 61 X6.here hx hby d409 rfl rfl ?_
 refine t_iconst 62 (r := 1) X6.here hx hby d410 (by decide) rfl ?_
 refine t_iloadN 63 X6.here hx hby d411 rfl rfl ?_
 refine st8 _ ?_
 refine t_dup 65 X8.here hx hby d413 rfl rfl ?_
 refine t_iconst 66 (r := 2) X8.here hx hby d414 (by decide) rfl ?_
 refine t_iloadN 67 X8.here hx hby d415 rfl rfl ?_
 refine st9 _ ?_
 refine st11 _ ?_
 jvm_step X11.here [X11.here.top, hx, (hb hby d418), X11.method', hret, Value.isRef, FieldType.isReference]
 first | (intro acts; rw [hr _ acts rfl rfl rfl]) | rw [hr _ _ rfl rfl rfl]
 exact Steps.refl _
def Q_r104_length (Z : State) (o0 o_1 : Addr) (i_3 i_4 i_5 : Int32) (k_o_1 : ClassId) (i_6 : Int32) (h0 : Heap) (n0 : Nat) (v : Option Value) (h : Heap) (L : List Loc) : Prop := v = some (.int 3) ∧ Fr n0 L ∧ h = h0
theorem r104_length (l : Launch) (Z : State) (a0 : Array Value) (hw : HW Z a0) (ws : List Jvm.Cond) (o0 o_1 : Addr) (i_3 i_4 i_5 : Int32) (k_o_1 : ClassId) (i_6 : Int32) (h0 : Heap) (n0 : Nat) (Z0 : n0 ≤ h0.size) (F_o0_value : Fd0 Z h0 o0 (.ref o_1)) (V_o_1 : Arv Z h0 o_1 k_o_1 .byte 3 [(.int i_3), (.int i_4), (.int i_5)] z0) (E_o0 : Ex0 Z h0 o0) (sCS : SCS Z i_6) (F_o0_coder : Fd1 Z h0 o0 z0) (O0 : Old Z n0 h0) (hp0 : ¬ (i_6 = (0 : Int32))) :
    MF l Z y3_length b3_ 1 (some .int) ws ⟨1, 0, 0, 13⟩ #[(.ref o0)] h0 (Q_r104_length Z o0 o_1 i_3 i_4 i_5 k_o_1 i_6 h0 n0) := by
 refine own_body (plainFor_of_name pn_String564) (ef_3 o0) (by decide) (by decide) ?_
 intro p e s m below meth c s₁ hx hby hml hown hnm hret hZ hh e0 X0
 have N0 := Fr.nil n0
 obtain ⟨T2, X2, e2, st2⟩ := getF X0 hx hZ hown (host := "") (Or.inl (w25 hw)) Via.refl e0 F_o0_value (g := (mkF m 1 #[vr o0] [(.ref o0)])) rfl rfl (hb hby d18)
 obtain ⟨_, T7, L7, X7, hQ7, st7⟩ := own_virtual X2 hx hZ hown (w36 hw) (w37 hw) (nfS hZ (w39 hw)) (w39 hw) (w38 hw) (w7 hw) (w40 hw) (by decide) (r2_coder l Z a0 hw [] o0 i_6 h0 n0 Z0 sCS O0 hp0 F_o0_coder) e2 E_o0 (W := 1) (by decide) (g := (mkF m 6 #[vr o0] [(.ref o0), (.int 3)])) rfl hml.symm (argsL := []) (rest := [(.int 3)]) (lenOf pd_1 rfl) rfl rfl (own_wr rfl rfl) (hb hby d21)
 obtain ⟨rfl, N7q, e7⟩ := hQ7
 have N7 := Fr.app N0 N7q
 refine ⟨T7, _, some (.int 3), X7, (fun h => by cases h <;> rfl), ?_, fun fs hr => ?_⟩
 · show Q_r104_length Z o0 o_1 i_3 i_4 i_5 k_o_1 i_6 h0 n0 _ T7.heap _
   rw [e7]
   exact ⟨rfl, N7, rfl⟩
 refine t_aloadN 1 X0.here hx hby d17 rfl rfl rfl ?_
 refine st2 _ ?_
 refine own_arlen (pc' := 5) X2 hx hZ e2 V_o_1 (hb hby d19) rfl ?_
 refine t_aloadN 6 X2.here hx hby d20 rfl rfl rfl ?_
 refine st7 _ ?_
 refine t_ishr 10 (r := 3) X7.here hx hby d28 (by decide : ((3 : Int32) >>> ((0 : Int32) &&& 31)) = (3 : Int32)) rfl ?_
 exact retI X7 hx hret (hb hby d29) hr
def Q_r103_unitOf (Z : State) (o0 o_1 : Addr) (i_2 i_3 i_4 : Int32) (k_o_1 : ClassId) (i_5 : Int32) (o_7 : Addr) (h0 : Heap) (n0 : Nat) (v : Option Value) (h : Heap) (L : List Loc) : Prop := v = some (.ref o_7) ∧ Fr n0 L ∧ h = h0
theorem r103_unitOf (l : Launch) (Z : State) (a0 : Array Value) (hw : HW Z a0) (ws : List Jvm.Cond) (o0 o_1 : Addr) (i_2 i_3 i_4 : Int32) (k_o_1 : ClassId) (i_5 : Int32) (o_7 : Addr) (h0 : Heap) (n0 : Nat) (Z0 : n0 ≤ h0.size) (E_o0 : Ex0 Z h0 o0) (F_o0_value : Fd0 Z h0 o0 (.ref o_1)) (V_o_1 : Arv Z h0 o_1 k_o_1 .byte 3 [(.int i_2), (.int i_3), (.int i_4)] z0) (sCS : SCS Z i_5) (F_o0_coder : Fd1 Z h0 o0 z0) (O0 : Old Z n0 h0) (hp0 : ¬ (i_5 = (0 : Int32))) (S_EMPTY : Sa4 Z (.ref o_7)) :
    MF l Z y9_unitOf b2_ 2 (some (.object "java/util/Optional")) ws ⟨2, 0, 0, 25⟩ #[(.ref o0)] h0 (Q_r103_unitOf Z o0 o_1 i_2 i_3 i_4 k_o_1 i_5 o_7 h0 n0) := by
 refine own_body (plainFor_of_name pn_PaymentFrequency668) (ef_6 o0) (by decide) (by decide) ?_
 intro p e s m below meth c s₁ hx hby hml hown hnm hret hZ hh e0 X0
 have N0 := Fr.nil n0
 obtain ⟨_, T6, L6, X6, hQ6, st6⟩ := own_virtual X0 hx hZ hown (w31 hw) (w32 hw) (nfS hZ (w34 hw)) (w34 hw) (w33 hw) (w7 hw) (w35 hw) (by decide) (r104_length l Z a0 hw [] o0 o_1 i_2 i_3 i_4 k_o_1 i_5 h0 n0 Z0 F_o0_value V_o_1 E_o0 sCS F_o0_coder O0 hp0) e0 E_o0 (W := 0) (by decide) (g := (mkF m 3 #[vr o0, .val .null] [(.ref o0)])) rfl hml.symm (argsL := []) (rest := []) (lenOf pd_2 rfl) rfl rfl (own_wr rfl rfl) (hb hby d16)
 obtain ⟨rfl, N6q, e6⟩ := hQ6
 have N6 := Fr.app N0 N6q
 obtain ⟨_, T8, L8, X8, hQ8, st8⟩ := own_static X6 hx hZ hown (w42 hw) (w43 hw) (w44 hw) (w45 hw) (by decide) (r13_ofNullable l Z a0 hw [] o_7 h0 n0 Z0 S_EMPTY O0) e6 (W := 0) (by decide) (g := (mkF m 93 #[vr o0, .val .null] [.null])) rfl hml.symm (argsL := [.null]) (rest := []) (lenOf pd_8 rfl) rfl rfl (own_wr rfl rfl) (hb hby d67)
 obtain ⟨rfl, N8q, e8⟩ := hQ8
 have N8 := Fr.app N6 N8q
 refine ⟨T8, _, some (.ref o_7), X8, (fun h => by cases h <;> rfl), ?_, fun fs hr => ?_⟩
 · show Q_r103_unitOf Z o0 o_1 i_2 i_3 i_4 k_o_1 i_5 o_7 h0 n0 _ T8.heap _
   rw [e8]
   exact ⟨rfl, N8, rfl⟩
 refine t_aconst_null 1 X0.here hx hby d13 rfl ?_
 refine t_astoreN (pc' := 2) (L' := #[vr o0, .val .null]) X0.here hx hby d14 rfl rfl rfl ?_
 refine t_aloadN 3 X0.here hx hby d15 rfl rfl rfl ?_
 refine st6 _ ?_
 refine t_iconst 7 (r := 1) X6.here hx hby d30 (by decide) rfl ?_
 refine t_icmpYes (pc := 7) 92 X6.here hx hby d31 (by decide) (by decide) (by decide) ?_
 refine t_aloadN 93 X6.here hx hby d66 rfl rfl rfl ?_
 refine st8 _ ?_
 jvm_step X8.here [X8.here.top, hx, (hb hby d81), X8.method', hret, Value.isRef, FieldType.isReference]
 first | (intro acts; rw [hr _ acts rfl rfl rfl]) | rw [hr _ _ rfl rfl rfl]
 exact Steps.refl _
theorem law_a3_s (l : Launch) (Z : State) (a0 : Array Value) (hw : HW Z a0) (ws : List Jvm.Cond) (p0 p1 p2 p3 cs : Int32) (fm : Value) (st_EMPTY st_DAYS st_MONTHS st_YEARS : Addr) (h0 : Heap) (n0 : Nat) (Z0 : n0 ≤ h0.size) (ha : ¬ ((255 : Int32) < (own_ch p1))) (hbb : ¬ ((255 : Int32) < (own_ch p2))) (hcc : ¬ ((255 : Int32) < (own_ch p3))) (hcs : ¬ (cs = (0 : Int32))) (hln : (p0 &&& (3 : Int32)) = (3 : Int32)) (hbit : (((p0.toUInt32 >>> ((2 : Int32) &&& 31).toUInt32).toInt32) &&& (1 : Int32)) = (0 : Int32)) (sCS : SCS Z cs) (O0 : Old Z n0 h0) (S_EMPTY : Sa4 Z (.ref st_EMPTY)) (E_st_EMPTY : Ex1 Z h0 st_EMPTY) (F_st_EMPTY_value : Fd2 Z h0 st_EMPTY .null) :
    LawM l Z ws p0 p1 p2 p3 h0 n0 := by
 refine own_bodyH (k := 3) (n := 10) (y := x) (Q := fun v _ L => Q_law n0 v L) (own_EW hw) (plainFor_of_name pn_PaymentFrequencyUnitOfPinLaw855) (ef_law p0 p1 p2 p3) (by decide) (by decide) ?_
 intro p e s m below meth c s₁ hx hby hml hown hnm hret hZ e0 hS0 hk0 X0 hC0 hSF0
 have N0 := Fr.nil n0
 obtain ⟨_, T1, L1, X1, hQ1, st1⟩ := own_static X0 hx hZ hown (w1 hw) (w2 hw) (w3 hw) (w4 hw) (by decide) (r97_make l Z a0 hw [] (own_ch p1) (own_ch p2) (own_ch p3) cs h0 n0 Z0 (own_m16a p1) (own_m16b p1) (own_m16a p2) (own_m16b p2) (own_m16a p3) (own_m16b p3) sCS O0 hcs ha hbb hcc) e0 (W := 0) (by decide) (g := (mkF m 102 #[vi p0, vi p1, vi p2, vi p3, vi 3, vi ((own_ch p1)), vi ((own_ch p2)), vi ((own_ch p3)), .unset, .unset, .unset] [(.int (own_ch p3)), (.int (own_ch p2)), (.int (own_ch p1)), (.int 3)])) rfl hml.symm (argsL := [(.int 3), (.int (own_ch p1)), (.int (own_ch p2)), (.int (own_ch p3))]) (rest := []) (lenOf pd_11 rfl) rfl rfl (own_wr rfl rfl) (hb hby at_102)
 obtain ⟨b4_1, b1_7_5_11_1, k1_7_5_11_1, rfl, N1q, K1, Q1_0, Q1_1, Q1_2, Q1_3, Q1_4, Q1_5, Q1_6⟩ := hQ1
 have N1 := Fr.app N0 N1q
 have Ck0 := own_chK K1 na0 (CHr.refl hC0).1
 have Ah1 := (CHr.refl hC0).trans Ck0.1
 have f5 := (kOld K1 O0 na0)
 obtain ⟨_, T4, L4, X4, hQ4, st4⟩ := own_static X1 hx hZ hown (w27 hw) (w28 hw) (w29 hw) (w30 hw) (by decide) (r103_unitOf l Z a0 hw [] b4_1 b1_7_5_11_1 ((own_ch p1).toInt8.toInt32) ((own_ch p2).toInt8.toInt32) ((own_ch p3).toInt8.toInt32) k1_7_5_11_1 cs st_EMPTY T1.heap n0 (Nat.le_trans Z0 K1.1) Q1_3 Q1_4 Q1_6 sCS Q1_5 f5 hcs S_EMPTY) rfl (W := 0) (by decide) (g := (mkF m 109 #[vi p0, vi p1, vi p2, vi p3, vi 3, vi ((own_ch p1)), vi ((own_ch p2)), vi ((own_ch p3)), vr b4_1, .unset, .unset] [(.ref b4_1)])) rfl hml.symm (argsL := [(.ref b4_1)]) (rest := []) (lenOf pd_12 rfl) rfl rfl (own_wr rfl rfl) (hb hby at_109)
 obtain ⟨rfl, N4q, e4⟩ := hQ4
 have N4 := Fr.app N1 N4q
 obtain ⟨_, T6, L6, X6, hQ6, st6⟩ := own_static X4 hx hZ hown (w47 hw) (w48 hw) (w3 hw) (w49 hw) (by decide) (r70_expected l Z a0 hw [] (own_ch p1) T1.heap n0 (Nat.le_trans Z0 K1.1)) e4 (W := 0) (by decide) (g := (mkF m 118 #[vi p0, vi p1, vi p2, vi p3, vi 3, vi ((own_ch p1)), vi ((own_ch p2)), vi ((own_ch p3)), vr b4_1, vr st_EMPTY, .unset] [(.int (own_ch p1)), (.int 3)])) rfl hml.symm (argsL := [(.int 3), (.int (own_ch p1))]) (rest := []) (lenOf pd_13 rfl) rfl rfl (own_wr rfl rfl) (hb hby at_118)
 obtain ⟨rfl, N6q, e6⟩ := hQ6
 have N6 := Fr.app N4 N6q
 have f8 := (kFld K1 F_st_EMPTY_value nw0)
 have f9 := (kExa K1 E_st_EMPTY)
 obtain ⟨_, T7, L7, X7, hQ7, st7⟩ := own_virtual X6 hx hZ hown (w50 hw) (w51 hw) (nfS hZ (w53 hw)) (w53 hw) (w52 hw) (w44 hw) (w54 hw) (by decide) (r15_isPresent l Z a0 hw [] st_EMPTY T1.heap n0 (Nat.le_trans Z0 K1.1) f8) e6 f9 (W := 0) (by decide) (g := (mkF m 130 #[vi p0, vi p1, vi p2, vi p3, vi 3, vi ((own_ch p1)), vi ((own_ch p2)), vi ((own_ch p3)), vr b4_1, vr st_EMPTY, .val .null] [(.ref st_EMPTY)])) rfl hml.symm (argsL := []) (rest := []) (lenOf pd_3 rfl) rfl rfl (own_wr rfl rfl) (hb hby at_130)
 obtain ⟨rfl, N7q, e7⟩ := hQ7
 have N7 := Fr.app N6 N7q
 refine ⟨T7, _, some (.int 1), _, _, X7, hS0, (by rw [e7]; exact (Nat.le_trans hk0 K1.1)), (fun h => by cases h <;> rfl), ?_, (by rw [e7]; exact Ah1), hZ, fun fs hr => ?_⟩
 · show Q_law n0 _ _
   exact ⟨rfl, N7⟩
 refine t_iloadN 1 X0.here hx hby at_0 rfl rfl ?_
 refine t_iconst 2 (r := 3) X0.here hx hby at_1 (by decide) rfl ?_
 refine t_iand 3 (r := 3) X0.here hx hby at_2 hln rfl ?_
 refine t_istore (pc' := 5) (L' := #[vi p0, vi p1, vi p2, vi p3, vi 3, .unset, .unset, .unset, .unset, .unset, .unset]) X0.here hx hby at_3 rfl rfl ?_
 refine t_iloadN 6 X0.here hx hby at_5 rfl rfl ?_
 refine X0.ldcInt hx hown (mvT hZ (w0 hw)) (g := (mkF m 6 #[vi p0, vi p1, vi p2, vi p3, vi 3, .unset, .unset, .unset, .unset, .unset, .unset] [(.int p1)])) rfl (hb hby at_6) _ ?_
 refine t_iand 9 (r := (own_ch p1)) X0.here hx hby at_8 (Eq.refl (own_ch p1)) rfl ?_
 refine t_i2c 10 (r := (own_ch p1)) X0.here hx hby at_9 (own_c2d (own_m16a p1) (own_m16b p1)) rfl ?_
 refine t_istore (pc' := 12) (L' := #[vi p0, vi p1, vi p2, vi p3, vi 3, vi ((own_ch p1)), .unset, .unset, .unset, .unset, .unset]) X0.here hx hby at_10 rfl rfl ?_
 refine t_iloadN 13 X0.here hx hby at_12 rfl rfl ?_
 refine t_iconst 14 (r := 2) X0.here hx hby at_13 (by decide) rfl ?_
 refine t_iushr 15 X0.here hx hby at_14 rfl rfl ?_
 refine t_iconst 16 (r := 1) X0.here hx hby at_15 (by decide) rfl ?_
 refine t_iand 17 (r := 0) X0.here hx hby at_16 hbit rfl ?_
 refine t_ifYes (pc := 17) 80 X0.here hx hby at_17 (by decide) (by decide) (by decide) ?_
 refine t_iloadN 81 X0.here hx hby at_80 rfl rfl ?_
 refine X0.ldcInt hx hown (mvT hZ (w0 hw)) (g := (mkF m 81 #[vi p0, vi p1, vi p2, vi p3, vi 3, vi ((own_ch p1)), .unset, .unset, .unset, .unset, .unset] [(.int p2)])) rfl (hb hby at_81) _ ?_
 refine t_iand 84 (r := (own_ch p2)) X0.here hx hby at_83 (Eq.refl (own_ch p2)) rfl ?_
 refine t_i2c 85 (r := (own_ch p2)) X0.here hx hby at_84 (own_c2d (own_m16a p2) (own_m16b p2)) rfl ?_
 refine t_istore (pc' := 87) (L' := #[vi p0, vi p1, vi p2, vi p3, vi 3, vi ((own_ch p1)), vi ((own_ch p2)), .unset, .unset, .unset, .unset]) X0.here hx hby at_85 rfl rfl ?_
 refine t_iloadN 88 X0.here hx hby at_87 rfl rfl ?_
 refine X0.ldcInt hx hown (mvT hZ (w0 hw)) (g := (mkF m 88 #[vi p0, vi p1, vi p2, vi p3, vi 3, vi ((own_ch p1)), vi ((own_ch p2)), .unset, .unset, .unset, .unset] [(.int p3)])) rfl (hb hby at_88) _ ?_
 refine t_iand 91 (r := (own_ch p3)) X0.here hx hby at_90 (Eq.refl (own_ch p3)) rfl ?_
 refine t_i2c 92 (r := (own_ch p3)) X0.here hx hby at_91 (own_c2d (own_m16a p3) (own_m16b p3)) rfl ?_
 refine t_istore (pc' := 94) (L' := #[vi p0, vi p1, vi p2, vi p3, vi 3, vi ((own_ch p1)), vi ((own_ch p2)), vi ((own_ch p3)), .unset, .unset, .unset]) X0.here hx hby at_92 rfl rfl ?_
 refine t_iload 96 X0.here hx hby at_94 rfl rfl ?_
 refine t_iload 98 X0.here hx hby at_96 rfl rfl ?_
 refine t_iload 100 X0.here hx hby at_98 rfl rfl ?_
 refine t_iload 102 X0.here hx hby at_100 rfl rfl ?_
 refine st1 _ ?_
 refine t_astore (pc' := 107) (L' := #[vi p0, vi p1, vi p2, vi p3, vi 3, vi ((own_ch p1)), vi ((own_ch p2)), vi ((own_ch p3)), vr b4_1, .unset, .unset]) X1.here hx hby at_105 rfl rfl rfl ?_
 refine t_aload 109 X1.here hx hby at_107 rfl rfl rfl ?_
 refine st4 _ ?_
 refine t_astore (pc' := 114) (L' := #[vi p0, vi p1, vi p2, vi p3, vi 3, vi ((own_ch p1)), vi ((own_ch p2)), vi ((own_ch p3)), vr b4_1, vr st_EMPTY, .unset]) X4.here hx hby at_112 rfl rfl rfl ?_
 refine t_iload 116 X4.here hx hby at_114 rfl rfl ?_
 refine t_iload 118 X4.here hx hby at_116 rfl rfl ?_
 refine st6 _ ?_
 refine t_astore (pc' := 123) (L' := #[vi p0, vi p1, vi p2, vi p3, vi 3, vi ((own_ch p1)), vi ((own_ch p2)), vi ((own_ch p3)), vr b4_1, vr st_EMPTY, .val .null]) X6.here hx hby at_121 rfl rfl rfl ?_
 refine t_aload 125 X6.here hx hby at_123 rfl rfl rfl ?_
 refine t_ifnonnullNo 128 X6.here hx hby at_125 rfl ?_
 refine t_aload 130 X6.here hx hby at_128 rfl rfl rfl ?_
 refine st7 _ ?_
 refine t_ifNo 136 X7.here hx hby at_133 (by decide) rfl ?_
 refine t_iconst 137 (r := 1) X7.here hx hby at_136 (by decide) rfl ?_
 refine t_goto (pc := 137) 141 X7.here hx hby at_137 (by decide) (by decide) ?_
 exact retN X7 hx (t := .boolean) hret (by simp) (hb hby at_141) hr
def w57 (hw : HW Z a0) := ow 57 hw rfl
theorem law_b0 (l : Launch) (Z : State) (a0 : Array Value) (hw : HW Z a0) (ws : List Jvm.Cond) (p0 p1 p2 p3 cs : Int32) (fm : Value) (st_EMPTY st_DAYS st_MONTHS st_YEARS : Addr) (h0 : Heap) (n0 : Nat) (Z0 : n0 ≤ h0.size) (hcs : ¬ (cs = (0 : Int32))) (hln : (p0 &&& (3 : Int32)) = (0 : Int32)) (hbit : (((p0.toUInt32 >>> ((2 : Int32) &&& 31).toUInt32).toInt32) &&& (1 : Int32)) = (1 : Int32)) (sCS : SCS Z cs) (S_EMPTY : Sa4 Z (.ref st_EMPTY)) (O0 : Old Z n0 h0) (E_st_EMPTY : Ex1 Z h0 st_EMPTY) (F_st_EMPTY_value : Fd2 Z h0 st_EMPTY .null) :
    LawM l Z ws p0 p1 p2 p3 h0 n0 := by
 refine own_bodyH (k := 7) (n := 20) (y := x) (Q := fun v _ L => Q_law n0 v L) (own_EW hw) (plainFor_of_name pn_PaymentFrequencyUnitOfPinLaw855) (ef_law p0 p1 p2 p3) (by decide) (by decide) ?_
 intro p e s m below meth c s₁ hx hby hml hown hnm hret hZ e0 hS0 hk0 X0 hC0 hSF0
 have N0 := Fr.nil n0
 obtain ⟨T1, h1, k1, X1, e1, E1, A1, st1⟩ := newP (aty := .char) X0 hx hZ (w8 hw) e0 (g := (mkF m 22 #[vi p0, vi p1, vi p2, vi p3, vi 0, vi ((own_ch p1)), .unset, .unset, .unset, .unset, .unset] [(.int 8)])) rfl (hb hby at_22) rfl (by decide) (cap := 8) (by decide) (by decide) (by decide) (by decide)
 obtain ⟨b1, g1⟩ : ∃ z, z = h0.size := ⟨_, rfl⟩
 rw [← g1] at A1 st1
 have ge_b1 : h0.size ≤ b1 := Nat.le_of_eq g1.symm
 have K1 := KL.ofE E1
 have Ck0 := own_chK K1 na0 (CHr.refl hC0).1
 have Ah1 := (CHr.refl hC0).trans Ck0.1
 have V1 : Arv Z h1 b1 k1 .char 8 [z0, z0, z0, z0, z0, z0, z0, z0] z0 := (Arv.new A1 (by decide)).pad (pad_rep [] z0 8)
 obtain ⟨T2, h2, X2, e2, W2, V2, st2⟩ := own_astC X1 hx hZ e1 V1 (j := 0) (by decide) 0 rfl (Nat.le_of_ble_eq_true rfl) (g := (mkF m 28 #[vi p0, vi p1, vi p2, vi p3, vi 0, vi ((own_ch p1)), .unset, .unset, .unset, .unset, .unset] [(.int 68), z0, (.ref b1), (.ref b1)])) rfl rfl (hb hby at_28)
 rw [show (nar .char 68) = (68 : Int32) from by decide] at V2
 have gg3 := Nat.le_trans Z0 ge_b1
 have K2 := KL.ofW W2
 have Ck1 := own_chK K2 (naF (Ck0.2 _ (Safe.new ge_b1)) na0) Ah1.1
 have Ah2 := Ah1.trans Ck1.1
 replace V2 : Arv Z h2 b1 k1 .char 8 [(.int 68), z0, z0, z0, z0, z0, z0, z0] z0 := V2
 have N2 := Fr.snoc X2 N0 gg3
 obtain ⟨T4, h4, X4, e4, W4, V4, st4⟩ := own_astC X2 hx hZ e2 V2 (j := 1) (by decide) 1 rfl (Nat.le_of_ble_eq_true rfl) (g := (mkF m 33 #[vi p0, vi p1, vi p2, vi p3, vi 0, vi ((own_ch p1)), .unset, .unset, .unset, .unset, .unset] [(.int 100), (.int 1), (.ref b1), (.ref b1)])) rfl rfl (hb hby at_33)
 rw [show (nar .char 100) = (100 : Int32) from by decide] at V4
 have K4 := KL.ofW W4
 have sf5 := (Ck1.2 _ (Ck0.2 _ (Safe.new ge_b1)))
 have Ck2 := own_chK K4 (naF sf5 na0) Ah2.1
 have Ah3 := Ah2.trans Ck2.1
 replace V4 : Arv Z h4 b1 k1 .char 8 [(.int 68), (.int 100), z0, z0, z0, z0, z0, z0] z0 := V4
 have N4 := Fr.snoc X4 N2 gg3
 obtain ⟨T6, h6, X6, e6, W6, V6, st6⟩ := own_astC X4 hx hZ e4 V4 (j := 2) (by decide) 2 rfl (Nat.le_of_ble_eq_true rfl) (g := (mkF m 38 #[vi p0, vi p1, vi p2, vi p3, vi 0, vi ((own_ch p1)), .unset, .unset, .unset, .unset, .unset] [(.int 77), (.int 2), (.ref b1), (.ref b1)])) rfl rfl (hb hby at_38)
 rw [show (nar .char 77) = (77 : Int32) from by decide] at V6
 have K6 := KL.ofW W6
 have Ck3 := own_chK K6 (naF (Ck2.2 _ sf5) na0) Ah3.1
 have Ah4 := Ah3.trans Ck3.1
 replace V6 : Arv Z h6 b1 k1 .char 8 [(.int 68), (.int 100), (.int 77), z0, z0, z0, z0, z0] z0 := V6
 have N6 := Fr.snoc X6 N4 gg3
 obtain ⟨T7, h7, X7, e7, W7, V7, st7⟩ := own_astC X6 hx hZ e6 V6 (j := 3) (by decide) 3 rfl (Nat.le_of_ble_eq_true rfl) (g := (mkF m 43 #[vi p0, vi p1, vi p2, vi p3, vi 0, vi ((own_ch p1)), .unset, .unset, .unset, .unset, .unset] [(.int 109), (.int 3), (.ref b1), (.ref b1)])) rfl rfl (hb hby at_43)
 rw [show (nar .char 109) = (109 : Int32) from by decide] at V7
 have K7 := KL.ofW W7
 have sf8 := (Ck3.2 _ (Ck2.2 _ sf5))
 have Ck4 := own_chK K7 (naF sf8 na0) Ah4.1
 have Ah5 := Ah4.trans Ck4.1
 replace V7 : Arv Z h7 b1 k1 .char 8 [(.int 68), (.int 100), (.int 77), (.int 109), z0, z0, z0, z0] z0 := V7
 have N7 := Fr.snoc X7 N6 gg3
 obtain ⟨T9, h9, X9, e9, W9, V9, st9⟩ := own_astC X7 hx hZ e7 V7 (j := 4) (by decide) 4 rfl (Nat.le_of_ble_eq_true rfl) (g := (mkF m 48 #[vi p0, vi p1, vi p2, vi p3, vi 0, vi ((own_ch p1)), .unset, .unset, .unset, .unset, .unset] [(.int 89), (.int 4), (.ref b1), (.ref b1)])) rfl rfl (hb hby at_48)
 rw [show (nar .char 89) = (89 : Int32) from by decide] at V9
 have K9 := KL.ofW W9
 have Ck5 := own_chK K9 (naF (Ck4.2 _ sf8) na0) Ah5.1
 have Ah6 := Ah5.trans Ck5.1
 replace V9 : Arv Z h9 b1 k1 .char 8 [(.int 68), (.int 100), (.int 77), (.int 109), (.int 89), z0, z0, z0] z0 := V9
 have N9 := Fr.snoc X9 N7 gg3
 obtain ⟨T10, h10, X10, e10, W10, V10, st10⟩ := own_astC X9 hx hZ e9 V9 (j := 5) (by decide) 5 rfl (Nat.le_of_ble_eq_true rfl) (g := (mkF m 53 #[vi p0, vi p1, vi p2, vi p3, vi 0, vi ((own_ch p1)), .unset, .unset, .unset, .unset, .unset] [(.int 121), (.int 5), (.ref b1), (.ref b1)])) rfl rfl (hb hby at_53)
 rw [show (nar .char 121) = (121 : Int32) from by decide] at V10
 have K10 := KL.ofW W10
 have sf11 := (Ck5.2 _ (Ck4.2 _ sf8))
 have Ck6 := own_chK K10 (naF sf11 na0) Ah6.1
 have Ah7 := Ah6.trans Ck6.1
 replace V10 : Arv Z h10 b1 k1 .char 8 [(.int 68), (.int 100), (.int 77), (.int 109), (.int 89), (.int 121), z0, z0] z0 := V10
 have N10 := Fr.snoc X10 N9 gg3
 obtain ⟨T12, h12, X12, e12, W12, V12, st12⟩ := own_astC X10 hx hZ e10 V10 (j := 6) (by decide) 6 rfl (Nat.le_of_ble_eq_true rfl) (g := (mkF m 59 #[vi p0, vi p1, vi p2, vi p3, vi 0, vi ((own_ch p1)), .unset, .unset, .unset, .unset, .unset] [(.int 69), (.int 6), (.ref b1), (.ref b1)])) rfl rfl (hb hby at_59)
 rw [show (nar .char 69) = (69 : Int32) from by decide] at V12
 have K12 := KL.ofW W12
 have Ck7 := own_chK K12 (naF (Ck6.2 _ sf11) na0) Ah7.1
 have Ah8 := Ah7.trans Ck7.1
 replace V12 : Arv Z h12 b1 k1 .char 8 [(.int 68), (.int 100), (.int 77), (.int 109), (.int 89), (.int 121), (.int 69), z0] z0 := V12
 have N12 := Fr.snoc X12 N10 gg3
 obtain ⟨T13, h13, X13, e13, W13, V13, st13⟩ := own_astC X12 hx hZ e12 V12 (j := 7) (by decide) 7 rfl (Nat.le_of_ble_eq_true rfl) (g := (mkF m 65 #[vi p0, vi p1, vi p2, vi p3, vi 0, vi ((own_ch p1)), .unset, .unset, .unset, .unset, .unset] [(.int 78), (.int 7), (.ref b1), (.ref b1)])) rfl rfl (hb hby at_65)
 rw [show (nar .char 78) = (78 : Int32) from by decide] at V13
 have K13 := KL.ofW W13
 have sf14 := (Ck7.2 _ (Ck6.2 _ sf11))
 have Ck8 := own_chK K13 (naF sf14 na0) Ah8.1
 have Ah9 := Ah8.trans Ck8.1
 replace V13 : Arv Z h13 b1 k1 .char 8 [(.int 68), (.int 100), (.int 77), (.int 109), (.int 89), (.int 121), (.int 69), (.int 78)] z0 := V13
 have N13 := Fr.snoc X13 N12 gg3
 have sz_0_2 := (Nat.le_trans K1.1 K2.1)
 have sz_0_3 := (Nat.le_trans sz_0_2 K4.1)
 have sz_0_4 := (Nat.le_trans sz_0_3 K6.1)
 have sz_0_5 := (Nat.le_trans sz_0_4 K7.1)
 have sz_0_6 := (Nat.le_trans sz_0_5 K9.1)
 have sz_0_7 := (Nat.le_trans sz_0_6 K10.1)
 have sz_0_8 := (Nat.le_trans sz_0_7 K12.1)
 have sz_0_9 := (Nat.le_trans sz_0_8 K13.1)
 obtain ⟨_, T15, L15, X15, hS15, hk15, hZ15, hown15, hQ15, hC15, st15⟩ := own_Hstatic X13 hx hZ hown (w1 hw) (w2 hw) (w3 hw) (w4 hw) (by decide) (r8_make l Z a0 hw [] (own_let p1) (own_ch p2) (own_ch p3) h13 n0 (Nat.le_trans Z0 sz_0_9)) e13 (W := 0) (by decide) (g := (mkF m 102 #[vi p0, vi p1, vi p2, vi p3, vi 0, vi ((own_let p1)), vi ((own_ch p2)), vi ((own_ch p3)), .unset, .unset, .unset] [(.int (own_ch p3)), (.int (own_ch p2)), (.int (own_let p1)), z0])) rfl hml.symm (argsL := [z0, (.int (own_let p1)), (.int (own_ch p2)), (.int (own_ch p3))]) (rest := []) (lenOf pd_11 rfl) rfl rfl (own_wr rfl rfl) (hb hby at_102) hS0 (Nat.le_trans hk0 sz_0_9) (own_EW hw) Ah9.1 sf0
 obtain ⟨b4_15, b2_1_6_15, kb2_1_6_15, rfl, N15q, K15, Q15_0, Q15_1, Q15_2, Q15_3, Q15_4, Q15_5⟩ := hQ15
 have N15 := Fr.app N13 N15q
 have Ah10 := Ah9.trans hC15
 have f18 := (kOld K15 (kOld K13 (kOld K12 (kOld K10 (kOld K9 (kOld K7 (kOld K6 (kOld K4 (kOld K2 (kOld K1 O0 na0) (naG gg3 na0)) (naG gg3 na0)) (naG gg3 na0)) (naG gg3 na0)) (naG gg3 na0)) (naG gg3 na0)) (naG gg3 na0)) (naG gg3 na0)) na0)
 have sz_0_10 := (Nat.le_trans sz_0_9 K15.1)
 obtain ⟨_, T17, L17, X17, hQ17, st17⟩ := own_static X15 hx hZ15 hown15 (w27 hw) (w28 hw) (w29 hw) (w30 hw) (by decide) (r11_unitOf l Z a0 hw [] b4_15 b2_1_6_15 kb2_1_6_15 cs st_EMPTY T15.heap n0 (Nat.le_trans Z0 sz_0_10) Q15_2 Q15_3 Q15_5 sCS Q15_4 f18 hcs S_EMPTY) rfl (W := 0) (by decide) (g := (mkF m 109 #[vi p0, vi p1, vi p2, vi p3, vi 0, vi ((own_let p1)), vi ((own_ch p2)), vi ((own_ch p3)), vr b4_15, .unset, .unset] [(.ref b4_15)])) rfl hml.symm (argsL := [(.ref b4_15)]) (rest := []) (lenOf pd_12 rfl) rfl rfl (own_wr rfl rfl) (hb hby at_109)
 obtain ⟨rfl, N17q, e17⟩ := hQ17
 have N17 := Fr.app N15 N17q
 obtain ⟨_, T19, L19, X19, hQ19, st19⟩ := own_static X17 hx hZ15 hown15 (w47 hw) (w48 hw) (w3 hw) (w49 hw) (by decide) (r14_expected l Z a0 hw [] (own_let p1) T15.heap n0 (Nat.le_trans Z0 sz_0_10)) e17 (W := 0) (by decide) (g := (mkF m 118 #[vi p0, vi p1, vi p2, vi p3, vi 0, vi ((own_let p1)), vi ((own_ch p2)), vi ((own_ch p3)), vr b4_15, vr st_EMPTY, .unset] [(.int (own_let p1)), z0])) rfl hml.symm (argsL := [z0, (.int (own_let p1))]) (rest := []) (lenOf pd_13 rfl) rfl rfl (own_wr rfl rfl) (hb hby at_118)
 obtain ⟨rfl, N19q, e19⟩ := hQ19
 have N19 := Fr.app N17 N19q
 have lt_st_EMPTY : st_EMPTY < h0.size := Exa.lt E_st_EMPTY
 have ne21 := lt_ne lt_st_EMPTY ge_b1
 have f22 := (kFld K15 (kFld K13 (kFld K12 (kFld K10 (kFld K9 (kFld K7 (kFld K6 (kFld K4 (kFld K2 (kFld K1 F_st_EMPTY_value nw0) (nwL ne21 nw0)) (nwL ne21 nw0)) (nwL ne21 nw0)) (nwL ne21 nw0)) (nwL ne21 nw0)) (nwL ne21 nw0)) (nwL ne21 nw0)) (nwL ne21 nw0)) nw0)
 have f23 := (kExa K15 (kExa K13 (kExa K12 (kExa K10 (kExa K9 (kExa K7 (kExa K6 (kExa K4 (kExa K2 (kExa K1 E_st_EMPTY))))))))))
 obtain ⟨_, T20, L20, X20, hQ20, st20⟩ := own_virtual X19 hx hZ15 hown15 (w50 hw) (w51 hw) (nfS hZ15 (w53 hw)) (w53 hw) (w52 hw) (w44 hw) (w54 hw) (by decide) (r15_isPresent l Z a0 hw [] st_EMPTY T15.heap n0 (Nat.le_trans Z0 sz_0_10) f22) e19 f23 (W := 0) (by decide) (g := (mkF m 130 #[vi p0, vi p1, vi p2, vi p3, vi 0, vi ((own_let p1)), vi ((own_ch p2)), vi ((own_ch p3)), vr b4_15, vr st_EMPTY, .val .null] [(.ref st_EMPTY)])) rfl hml.symm (argsL := []) (rest := []) (lenOf pd_3 rfl) rfl rfl (own_wr rfl rfl) (hb hby at_130)
 obtain ⟨rfl, N20q, e20⟩ := hQ20
 have N20 := Fr.app N19 N20q
 refine ⟨T20, _, some (.int 1), _, _, X20, hS15, (by rw [e20]; exact hk15), (fun h => by cases h <;> rfl), ?_, (by rw [e20]; exact Ah10), hZ15, fun fs hr => ?_⟩
 · show Q_law n0 _ _
   exact ⟨rfl, N20⟩
 refine t_iloadN 1 X0.here hx hby at_0 rfl rfl ?_
 refine t_iconst 2 (r := 3) X0.here hx hby at_1 (by decide) rfl ?_
 refine t_iand 3 (r := 0) X0.here hx hby at_2 hln rfl ?_
 refine t_istore (pc' := 5) (L' := #[vi p0, vi p1, vi p2, vi p3, vi 0, .unset, .unset, .unset, .unset, .unset, .unset]) X0.here hx hby at_3 rfl rfl ?_
 refine t_iloadN 6 X0.here hx hby at_5 rfl rfl ?_
 refine X0.ldcInt hx hown (mvT hZ (w0 hw)) (g := (mkF m 6 #[vi p0, vi p1, vi p2, vi p3, vi 0, .unset, .unset, .unset, .unset, .unset, .unset] [(.int p1)])) rfl (hb hby at_6) _ ?_
 refine t_iand 9 (r := (own_ch p1)) X0.here hx hby at_8 (Eq.refl (own_ch p1)) rfl ?_
 refine t_i2c 10 (r := (own_ch p1)) X0.here hx hby at_9 (own_c2d (own_m16a p1) (own_m16b p1)) rfl ?_
 refine t_istore (pc' := 12) (L' := #[vi p0, vi p1, vi p2, vi p3, vi 0, vi ((own_ch p1)), .unset, .unset, .unset, .unset, .unset]) X0.here hx hby at_10 rfl rfl ?_
 refine t_iloadN 13 X0.here hx hby at_12 rfl rfl ?_
 refine t_iconst 14 (r := 2) X0.here hx hby at_13 (by decide) rfl ?_
 refine t_iushr 15 X0.here hx hby at_14 rfl rfl ?_
 refine t_iconst 16 (r := 1) X0.here hx hby at_15 (by decide) rfl ?_
 refine t_iand 17 (r := 1) X0.here hx hby at_16 hbit rfl ?_
 refine t_ifNo 20 X0.here hx hby at_17 (by decide) rfl ?_
 refine t_bipush 22 (r := 8) X0.here hx hby at_20 (by decide) rfl ?_
 refine st1 _ ?_
 refine t_dup 25 X1.here hx hby at_24 rfl rfl ?_
 refine t_iconst 26 (r := 0) X1.here hx hby at_25 (by decide) rfl ?_
 refine t_bipush 28 (r := 68) X1.here hx hby at_26 (by decide) rfl ?_
 refine st2 _ ?_
 refine t_dup 30 X2.here hx hby at_29 rfl rfl ?_
 refine t_iconst 31 (r := 1) X2.here hx hby at_30 (by decide) rfl ?_
 refine t_bipush 33 (r := 100) X2.here hx hby at_31 (by decide) rfl ?_
 refine st4 _ ?_
 refine t_dup 35 X4.here hx hby at_34 rfl rfl ?_
 refine t_iconst 36 (r := 2) X4.here hx hby at_35 (by decide) rfl ?_
 refine t_bipush 38 (r := 77) X4.here hx hby at_36 (by decide) rfl ?_
 refine st6 _ ?_
 refine t_dup 40 X6.here hx hby at_39 rfl rfl ?_
 refine t_iconst 41 (r := 3) X6.here hx hby at_40 (by decide) rfl ?_
 refine t_bipush 43 (r := 109) X6.here hx hby at_41 (by decide) rfl ?_
 refine st7 _ ?_
 refine t_dup 45 X7.here hx hby at_44 rfl rfl ?_
 refine t_iconst 46 (r := 4) X7.here hx hby at_45 (by decide) rfl ?_
 refine t_bipush 48 (r := 89) X7.here hx hby at_46 (by decide) rfl ?_
 refine st9 _ ?_
 refine t_dup 50 X9.here hx hby at_49 rfl rfl ?_
 refine t_iconst 51 (r := 5) X9.here hx hby at_50 (by decide) rfl ?_
 refine t_bipush 53 (r := 121) X9.here hx hby at_51 (by decide) rfl ?_
 refine st10 _ ?_
 refine t_dup 55 X10.here hx hby at_54 rfl rfl ?_
 refine t_bipush 57 (r := 6) X10.here hx hby at_55 (by decide) rfl ?_
 refine t_bipush 59 (r := 69) X10.here hx hby at_57 (by decide) rfl ?_
 refine st12 _ ?_
 refine t_dup 61 X12.here hx hby at_60 rfl rfl ?_
 refine t_bipush 63 (r := 7) X12.here hx hby at_61 (by decide) rfl ?_
 refine t_bipush 65 (r := 78) X12.here hx hby at_63 (by decide) rfl ?_
 refine st13 _ ?_
 refine t_astore (pc' := 68) (L' := #[vi p0, vi p1, vi p2, vi p3, vi 0, vi ((own_ch p1)), vr b1, .unset, .unset, .unset, .unset]) X13.here hx hby at_66 rfl rfl rfl ?_
 refine t_aload 70 X13.here hx hby at_68 rfl rfl rfl ?_
 refine t_iloadN 71 X13.here hx hby at_70 rfl rfl ?_
 refine X13.ldcInt hx hown (mvT hZ (w57 hw)) (g := (mkF m 71 #[vi p0, vi p1, vi p2, vi p3, vi 0, vi ((own_ch p1)), vr b1, .unset, .unset, .unset, .unset] [(.int p1), (.ref b1)])) rfl (hb hby at_71) _ ?_
 refine t_iand 74 X13.here hx hby at_73 rfl rfl ?_
 refine t_bipush 76 (r := 8) X13.here hx hby at_74 (by decide) rfl ?_
 refine t_irem 77 X13.here hx hby at_76 (by decide) rfl rfl ?_
 refine own_aldC (pc' := 78) X13 hx hZ e13 V13 (j := ((p1 &&& (2147483647 : Int32)) - ((p1 &&& (2147483647 : Int32)) / (8 : Int32)) * (8 : Int32))) (v := (.int (own_let p1))) (own_letb p1) (own_letv p1) (hb hby at_77) rfl ?_
 refine t_istore (pc' := 80) (L' := #[vi p0, vi p1, vi p2, vi p3, vi 0, vi ((own_let p1)), vr b1, .unset, .unset, .unset, .unset]) X13.here hx hby at_78 rfl rfl ?_
 refine t_iloadN 81 X13.here hx hby at_80 rfl rfl ?_
 refine X13.ldcInt hx hown (mvT hZ (w0 hw)) (g := (mkF m 81 #[vi p0, vi p1, vi p2, vi p3, vi 0, vi ((own_let p1)), vr b1, .unset, .unset, .unset, .unset] [(.int p2)])) rfl (hb hby at_81) _ ?_
 refine t_iand 84 (r := (own_ch p2)) X13.here hx hby at_83 (Eq.refl (own_ch p2)) rfl ?_
 refine t_i2c 85 (r := (own_ch p2)) X13.here hx hby at_84 (own_c2d (own_m16a p2) (own_m16b p2)) rfl ?_
 refine t_istore (pc' := 87) (L' := #[vi p0, vi p1, vi p2, vi p3, vi 0, vi ((own_let p1)), vi ((own_ch p2)), .unset, .unset, .unset, .unset]) X13.here hx hby at_85 rfl rfl ?_
 refine t_iloadN 88 X13.here hx hby at_87 rfl rfl ?_
 refine X13.ldcInt hx hown (mvT hZ (w0 hw)) (g := (mkF m 88 #[vi p0, vi p1, vi p2, vi p3, vi 0, vi ((own_let p1)), vi ((own_ch p2)), .unset, .unset, .unset, .unset] [(.int p3)])) rfl (hb hby at_88) _ ?_
 refine t_iand 91 (r := (own_ch p3)) X13.here hx hby at_90 (Eq.refl (own_ch p3)) rfl ?_
 refine t_i2c 92 (r := (own_ch p3)) X13.here hx hby at_91 (own_c2d (own_m16a p3) (own_m16b p3)) rfl ?_
 refine t_istore (pc' := 94) (L' := #[vi p0, vi p1, vi p2, vi p3, vi 0, vi ((own_let p1)), vi ((own_ch p2)), vi ((own_ch p3)), .unset, .unset, .unset]) X13.here hx hby at_92 rfl rfl ?_
 refine t_iload 96 X13.here hx hby at_94 rfl rfl ?_
 refine t_iload 98 X13.here hx hby at_96 rfl rfl ?_
 refine t_iload 100 X13.here hx hby at_98 rfl rfl ?_
 refine t_iload 102 X13.here hx hby at_100 rfl rfl ?_
 refine st15 _ ?_
 refine t_astore (pc' := 107) (L' := #[vi p0, vi p1, vi p2, vi p3, vi 0, vi ((own_let p1)), vi ((own_ch p2)), vi ((own_ch p3)), vr b4_15, .unset, .unset]) X15.here hx hby at_105 rfl rfl rfl ?_
 refine t_aload 109 X15.here hx hby at_107 rfl rfl rfl ?_
 refine st17 _ ?_
 refine t_astore (pc' := 114) (L' := #[vi p0, vi p1, vi p2, vi p3, vi 0, vi ((own_let p1)), vi ((own_ch p2)), vi ((own_ch p3)), vr b4_15, vr st_EMPTY, .unset]) X17.here hx hby at_112 rfl rfl rfl ?_
 refine t_iload 116 X17.here hx hby at_114 rfl rfl ?_
 refine t_iload 118 X17.here hx hby at_116 rfl rfl ?_
 refine st19 _ ?_
 refine t_astore (pc' := 123) (L' := #[vi p0, vi p1, vi p2, vi p3, vi 0, vi ((own_let p1)), vi ((own_ch p2)), vi ((own_ch p3)), vr b4_15, vr st_EMPTY, .val .null]) X19.here hx hby at_121 rfl rfl rfl ?_
 refine t_aload 125 X19.here hx hby at_123 rfl rfl rfl ?_
 refine t_ifnonnullNo 128 X19.here hx hby at_125 rfl ?_
 refine t_aload 130 X19.here hx hby at_128 rfl rfl rfl ?_
 refine st20 _ ?_
 refine t_ifNo 136 X20.here hx hby at_133 (by decide) rfl ?_
 refine t_iconst 137 (r := 1) X20.here hx hby at_136 (by decide) rfl ?_
 refine t_goto (pc := 137) 141 X20.here hx hby at_137 (by decide) (by decide) ?_
 exact retN X20 hx (t := .boolean) hret (by simp) (hb hby at_141) hr
theorem law_b1_68 (l : Launch) (Z : State) (a0 : Array Value) (hw : HW Z a0) (ws : List Jvm.Cond) (p0 p1 p2 p3 cs : Int32) (fm : Value) (st_EMPTY st_DAYS st_MONTHS st_YEARS : Addr) (h0 : Heap) (n0 : Nat) (Z0 : n0 ≤ h0.size) (ha : (own_let p1) = (68 : Int32) ∨ (own_let p1) = (100 : Int32)) (hcs : ¬ (cs = (0 : Int32))) (hfm : fm.isRef = true) (hln : (p0 &&& (3 : Int32)) = (1 : Int32)) (hbit : (((p0.toUInt32 >>> ((2 : Int32) &&& 31).toUInt32).toInt32) &&& (1 : Int32)) = (1 : Int32)) (sCS : SCS Z cs) (O0 : Old Z n0 h0) (S_SIOOBE_FORMATTER : Sa0 Z fm) (S_DAYS : Sa1 Z (.ref st_DAYS)) :
    LawM l Z ws p0 p1 p2 p3 h0 n0 := by
 refine own_bodyH (k := 4) (n := 14) (y := x) (Q := fun v _ L => Q_law n0 v L) (own_EW hw) (plainFor_of_name pn_PaymentFrequencyUnitOfPinLaw855) (ef_law p0 p1 p2 p3) (by decide) (by decide) ?_
 intro p e s m below meth c s₁ hx hby hml hown hnm hret hZ e0 hS0 hk0 X0 hC0 hSF0
 have N0 := Fr.nil n0
 obtain ⟨T1, h1, k1, X1, e1, E1, A1, st1⟩ := newP (aty := .char) X0 hx hZ (w8 hw) e0 (g := (mkF m 22 #[vi p0, vi p1, vi p2, vi p3, vi 1, vi ((own_ch p1)), .unset, .unset, .unset, .unset, .unset] [(.int 8)])) rfl (hb hby at_22) rfl (by decide) (cap := 8) (by decide) (by decide) (by decide) (by decide)
 obtain ⟨b1, g1⟩ : ∃ z, z = h0.size := ⟨_, rfl⟩
 rw [← g1] at A1 st1
 have ge_b1 : h0.size ≤ b1 := Nat.le_of_eq g1.symm
 have K1 := KL.ofE E1
 have Ck0 := own_chK K1 na0 (CHr.refl hC0).1
 have Ah1 := (CHr.refl hC0).trans Ck0.1
 have V1 : Arv Z h1 b1 k1 .char 8 [z0, z0, z0, z0, z0, z0, z0, z0] z0 := (Arv.new A1 (by decide)).pad (pad_rep [] z0 8)
 obtain ⟨T2, h2, X2, e2, W2, V2, st2⟩ := own_astC X1 hx hZ e1 V1 (j := 0) (by decide) 0 rfl (Nat.le_of_ble_eq_true rfl) (g := (mkF m 28 #[vi p0, vi p1, vi p2, vi p3, vi 1, vi ((own_ch p1)), .unset, .unset, .unset, .unset, .unset] [(.int 68), z0, (.ref b1), (.ref b1)])) rfl rfl (hb hby at_28)
 rw [show (nar .char 68) = (68 : Int32) from by decide] at V2
 have gg3 := Nat.le_trans Z0 ge_b1
 have K2 := KL.ofW W2
 have Ck1 := own_chK K2 (naF (Ck0.2 _ (Safe.new ge_b1)) na0) Ah1.1
 have Ah2 := Ah1.trans Ck1.1
 replace V2 : Arv Z h2 b1 k1 .char 8 [(.int 68), z0, z0, z0, z0, z0, z0, z0] z0 := V2
 have N2 := Fr.snoc X2 N0 gg3
 obtain ⟨T4, h4, X4, e4, W4, V4, st4⟩ := own_astC X2 hx hZ e2 V2 (j := 1) (by decide) 1 rfl (Nat.le_of_ble_eq_true rfl) (g := (mkF m 33 #[vi p0, vi p1, vi p2, vi p3, vi 1, vi ((own_ch p1)), .unset, .unset, .unset, .unset, .unset] [(.int 100), (.int 1), (.ref b1), (.ref b1)])) rfl rfl (hb hby at_33)
 rw [show (nar .char 100) = (100 : Int32) from by decide] at V4
 have K4 := KL.ofW W4
 have sf5 := (Ck1.2 _ (Ck0.2 _ (Safe.new ge_b1)))
 have Ck2 := own_chK K4 (naF sf5 na0) Ah2.1
 have Ah3 := Ah2.trans Ck2.1
 replace V4 : Arv Z h4 b1 k1 .char 8 [(.int 68), (.int 100), z0, z0, z0, z0, z0, z0] z0 := V4
 have N4 := Fr.snoc X4 N2 gg3
 obtain ⟨T6, h6, X6, e6, W6, V6, st6⟩ := own_astC X4 hx hZ e4 V4 (j := 2) (by decide) 2 rfl (Nat.le_of_ble_eq_true rfl) (g := (mkF m 38 #[vi p0, vi p1, vi p2, vi p3, vi 1, vi ((own_ch p1)), .unset, .unset, .unset, .unset, .unset] [(.int 77), (.int 2), (.ref b1), (.ref b1)])) rfl rfl (hb hby at_38)
 rw [show (nar .char 77) = (77 : Int32) from by decide] at V6
 have K6 := KL.ofW W6
 have Ck3 := own_chK K6 (naF (Ck2.2 _ sf5) na0) Ah3.1
 have Ah4 := Ah3.trans Ck3.1
 replace V6 : Arv Z h6 b1 k1 .char 8 [(.int 68), (.int 100), (.int 77), z0, z0, z0, z0, z0] z0 := V6
 have N6 := Fr.snoc X6 N4 gg3
 obtain ⟨T7, h7, X7, e7, W7, V7, st7⟩ := own_astC X6 hx hZ e6 V6 (j := 3) (by decide) 3 rfl (Nat.le_of_ble_eq_true rfl) (g := (mkF m 43 #[vi p0, vi p1, vi p2, vi p3, vi 1, vi ((own_ch p1)), .unset, .unset, .unset, .unset, .unset] [(.int 109), (.int 3), (.ref b1), (.ref b1)])) rfl rfl (hb hby at_43)
 rw [show (nar .char 109) = (109 : Int32) from by decide] at V7
 have K7 := KL.ofW W7
 have sf8 := (Ck3.2 _ (Ck2.2 _ sf5))
 have Ck4 := own_chK K7 (naF sf8 na0) Ah4.1
 have Ah5 := Ah4.trans Ck4.1
 replace V7 : Arv Z h7 b1 k1 .char 8 [(.int 68), (.int 100), (.int 77), (.int 109), z0, z0, z0, z0] z0 := V7
 have N7 := Fr.snoc X7 N6 gg3
 obtain ⟨T9, h9, X9, e9, W9, V9, st9⟩ := own_astC X7 hx hZ e7 V7 (j := 4) (by decide) 4 rfl (Nat.le_of_ble_eq_true rfl) (g := (mkF m 48 #[vi p0, vi p1, vi p2, vi p3, vi 1, vi ((own_ch p1)), .unset, .unset, .unset, .unset, .unset] [(.int 89), (.int 4), (.ref b1), (.ref b1)])) rfl rfl (hb hby at_48)
 rw [show (nar .char 89) = (89 : Int32) from by decide] at V9
 have K9 := KL.ofW W9
 have Ck5 := own_chK K9 (naF (Ck4.2 _ sf8) na0) Ah5.1
 have Ah6 := Ah5.trans Ck5.1
 replace V9 : Arv Z h9 b1 k1 .char 8 [(.int 68), (.int 100), (.int 77), (.int 109), (.int 89), z0, z0, z0] z0 := V9
 have N9 := Fr.snoc X9 N7 gg3
 obtain ⟨T10, h10, X10, e10, W10, V10, st10⟩ := own_astC X9 hx hZ e9 V9 (j := 5) (by decide) 5 rfl (Nat.le_of_ble_eq_true rfl) (g := (mkF m 53 #[vi p0, vi p1, vi p2, vi p3, vi 1, vi ((own_ch p1)), .unset, .unset, .unset, .unset, .unset] [(.int 121), (.int 5), (.ref b1), (.ref b1)])) rfl rfl (hb hby at_53)
 rw [show (nar .char 121) = (121 : Int32) from by decide] at V10
 have K10 := KL.ofW W10
 have sf11 := (Ck5.2 _ (Ck4.2 _ sf8))
 have Ck6 := own_chK K10 (naF sf11 na0) Ah6.1
 have Ah7 := Ah6.trans Ck6.1
 replace V10 : Arv Z h10 b1 k1 .char 8 [(.int 68), (.int 100), (.int 77), (.int 109), (.int 89), (.int 121), z0, z0] z0 := V10
 have N10 := Fr.snoc X10 N9 gg3
 obtain ⟨T12, h12, X12, e12, W12, V12, st12⟩ := own_astC X10 hx hZ e10 V10 (j := 6) (by decide) 6 rfl (Nat.le_of_ble_eq_true rfl) (g := (mkF m 59 #[vi p0, vi p1, vi p2, vi p3, vi 1, vi ((own_ch p1)), .unset, .unset, .unset, .unset, .unset] [(.int 69), (.int 6), (.ref b1), (.ref b1)])) rfl rfl (hb hby at_59)
 rw [show (nar .char 69) = (69 : Int32) from by decide] at V12
 have K12 := KL.ofW W12
 have Ck7 := own_chK K12 (naF (Ck6.2 _ sf11) na0) Ah7.1
 have Ah8 := Ah7.trans Ck7.1
 replace V12 : Arv Z h12 b1 k1 .char 8 [(.int 68), (.int 100), (.int 77), (.int 109), (.int 89), (.int 121), (.int 69), z0] z0 := V12
 have N12 := Fr.snoc X12 N10 gg3
 obtain ⟨T13, h13, X13, e13, W13, V13, st13⟩ := own_astC X12 hx hZ e12 V12 (j := 7) (by decide) 7 rfl (Nat.le_of_ble_eq_true rfl) (g := (mkF m 65 #[vi p0, vi p1, vi p2, vi p3, vi 1, vi ((own_ch p1)), .unset, .unset, .unset, .unset, .unset] [(.int 78), (.int 7), (.ref b1), (.ref b1)])) rfl rfl (hb hby at_65)
 rw [show (nar .char 78) = (78 : Int32) from by decide] at V13
 have K13 := KL.ofW W13
 have sf14 := (Ck7.2 _ (Ck6.2 _ sf11))
 have Ck8 := own_chK K13 (naF sf14 na0) Ah8.1
 have Ah9 := Ah8.trans Ck8.1
 replace V13 : Arv Z h13 b1 k1 .char 8 [(.int 68), (.int 100), (.int 77), (.int 109), (.int 89), (.int 121), (.int 69), (.int 78)] z0 := V13
 have N13 := Fr.snoc X13 N12 gg3
 have f16 := (kOld K13 (kOld K12 (kOld K10 (kOld K9 (kOld K7 (kOld K6 (kOld K4 (kOld K2 (kOld K1 O0 na0) (naG gg3 na0)) (naG gg3 na0)) (naG gg3 na0)) (naG gg3 na0)) (naG gg3 na0)) (naG gg3 na0)) (naG gg3 na0)) (naG gg3 na0))
 have sz_0_2 := (Nat.le_trans K1.1 K2.1)
 have sz_0_3 := (Nat.le_trans sz_0_2 K4.1)
 have sz_0_4 := (Nat.le_trans sz_0_3 K6.1)
 have sz_0_5 := (Nat.le_trans sz_0_4 K7.1)
 have sz_0_6 := (Nat.le_trans sz_0_5 K9.1)
 have sz_0_7 := (Nat.le_trans sz_0_6 K10.1)
 have sz_0_8 := (Nat.le_trans sz_0_7 K12.1)
 have sz_0_9 := (Nat.le_trans sz_0_8 K13.1)
 obtain ⟨_, T15, L15, X15, hQ15, st15⟩ := own_static X13 hx hZ hown (w1 hw) (w2 hw) (w3 hw) (w4 hw) (by decide) (r16_make l Z a0 hw [] (own_let p1) (own_ch p2) (own_ch p3) cs h13 n0 (Nat.le_trans Z0 sz_0_9) sCS f16 hcs (own_lt255 ha (by decide) (by decide))) e13 (W := 0) (by decide) (g := (mkF m 102 #[vi p0, vi p1, vi p2, vi p3, vi 1, vi ((own_let p1)), vi ((own_ch p2)), vi ((own_ch p3)), .unset, .unset, .unset] [(.int (own_ch p3)), (.int (own_ch p2)), (.int (own_let p1)), (.int 1)])) rfl hml.symm (argsL := [(.int 1), (.int (own_let p1)), (.int (own_ch p2)), (.int (own_ch p3))]) (rest := []) (lenOf pd_11 rfl) rfl rfl (own_wr rfl rfl) (hb hby at_102)
 obtain ⟨b5_5_15, b2_6_5_15, k2_6_5_15, rfl, N15q, K15, Q15_0, Q15_1, Q15_2, Q15_3, Q15_4, Q15_5, Q15_6⟩ := hQ15
 have N15 := Fr.app N13 N15q
 have Ck9 := own_chK K15 na0 Ah9.1
 have Ah10 := Ah9.trans Ck9.1
 have f20 := (kOld K15 f16 na0)
 have sz_0_10 := (Nat.le_trans sz_0_9 K15.1)
 obtain ⟨_, T19, L19, X19, hQ19, st19⟩ := own_static X15 hx hZ hown (w27 hw) (w28 hw) (w29 hw) (w30 hw) (by decide) (r_un_DAYS l Z a0 hw [] b5_5_15 b2_6_5_15 ((own_let p1).toInt8.toInt32) cs fm st_DAYS k2_6_5_15 T15.heap n0 (Nat.le_trans Z0 sz_0_10) (own_b2o (own_leta p1) (own_lt255 ha (by decide) (by decide)) ha) hcs hfm Q15_3 Q15_4 Q15_6 sCS Q15_5 f20 S_SIOOBE_FORMATTER S_DAYS) rfl (W := 0) (by decide) (g := (mkF m 109 #[vi p0, vi p1, vi p2, vi p3, vi 1, vi ((own_let p1)), vi ((own_ch p2)), vi ((own_ch p3)), vr b5_5_15, .unset, .unset] [(.ref b5_5_15)])) rfl hml.symm (argsL := [(.ref b5_5_15)]) (rest := []) (lenOf pd_12 rfl) rfl rfl (own_wr rfl rfl) (hb hby at_109)
 obtain ⟨b1_4_19, rfl, N19q, K19, Q19_0, Q19_1, Q19_2⟩ := hQ19
 have N19 := Fr.app N15 N19q
 have Ck10 := own_chK K19 na0 Ah10.1
 have Ah11 := Ah10.trans Ck10.1
 have f23 := (kOld K19 f20 na0)
 have sz_0_11 := (Nat.le_trans sz_0_10 K19.1)
 obtain ⟨_, T22, L22, X22, hQ22, st22⟩ := own_static X19 hx hZ hown (w47 hw) (w48 hw) (w3 hw) (w49 hw) (by decide) (r_ex_DAYS l Z a0 hw [] (own_let p1) st_DAYS T19.heap n0 (Nat.le_trans Z0 sz_0_11) ha S_DAYS f23) rfl (W := 0) (by decide) (g := (mkF m 118 #[vi p0, vi p1, vi p2, vi p3, vi 1, vi ((own_let p1)), vi ((own_ch p2)), vi ((own_ch p3)), vr b5_5_15, vr b1_4_19, .unset] [(.int (own_let p1)), (.int 1)])) rfl hml.symm (argsL := [(.int 1), (.int (own_let p1))]) (rest := []) (lenOf pd_13 rfl) rfl rfl (own_wr rfl rfl) (hb hby at_118)
 obtain ⟨rfl, N22q, e22⟩ := hQ22
 have N22 := Fr.app N19 N22q
 obtain ⟨_, T24, L24, X24, hQ24, st24⟩ := own_virtual X22 hx hZ hown (w50 hw) (w51 hw) (nfS hZ (w53 hw)) (w53 hw) (w52 hw) (w44 hw) (w54 hw) (by decide) (r21_isPresent l Z a0 hw [] b1_4_19 st_DAYS T19.heap n0 (Nat.le_trans Z0 sz_0_11) Q19_2) e22 Q19_1 (W := 0) (by decide) (g := (mkF m 144 #[vi p0, vi p1, vi p2, vi p3, vi 1, vi ((own_let p1)), vi ((own_ch p2)), vi ((own_ch p3)), vr b5_5_15, vr b1_4_19, vr st_DAYS] [(.ref b1_4_19)])) rfl hml.symm (argsL := []) (rest := []) (lenOf pd_3 rfl) rfl rfl (own_wr rfl rfl) (hb hby at_144)
 obtain ⟨rfl, N24q, e24⟩ := hQ24
 have N24 := Fr.app N22 N24q
 obtain ⟨_, T25, L25, X25, hQ25, st25⟩ := own_virtual X24 hx hZ hown (w145 hw) (w146 hw) (nfS hZ (w148 hw)) (w148 hw) (w147 hw) (w44 hw) (w149 hw) (by decide) (r22_get l Z a0 hw [] b1_4_19 st_DAYS T19.heap n0 (Nat.le_trans Z0 sz_0_11) Q19_2) e24 Q19_1 (W := 0) (by decide) (g := (mkF m 152 #[vi p0, vi p1, vi p2, vi p3, vi 1, vi ((own_let p1)), vi ((own_ch p2)), vi ((own_ch p3)), vr b5_5_15, vr b1_4_19, vr st_DAYS] [(.ref b1_4_19)])) rfl hml.symm (argsL := []) (rest := []) (lenOf pd_18 rfl) rfl rfl (own_wr rfl rfl) (hb hby at_152)
 obtain ⟨rfl, N25q, e25⟩ := hQ25
 have N25 := Fr.app N24 N25q
 refine ⟨T25, _, some (.int 1), _, _, X25, hS0, (by rw [e25]; exact (Nat.le_trans hk0 sz_0_11)), (fun h => by cases h <;> rfl), ?_, (by rw [e25]; exact Ah11), hZ, fun fs hr => ?_⟩
 · show Q_law n0 _ _
   exact ⟨rfl, N25⟩
 refine t_iloadN 1 X0.here hx hby at_0 rfl rfl ?_
 refine t_iconst 2 (r := 3) X0.here hx hby at_1 (by decide) rfl ?_
 refine t_iand 3 (r := 1) X0.here hx hby at_2 hln rfl ?_
 refine t_istore (pc' := 5) (L' := #[vi p0, vi p1, vi p2, vi p3, vi 1, .unset, .unset, .unset, .unset, .unset, .unset]) X0.here hx hby at_3 rfl rfl ?_
 refine t_iloadN 6 X0.here hx hby at_5 rfl rfl ?_
 refine X0.ldcInt hx hown (mvT hZ (w0 hw)) (g := (mkF m 6 #[vi p0, vi p1, vi p2, vi p3, vi 1, .unset, .unset, .unset, .unset, .unset, .unset] [(.int p1)])) rfl (hb hby at_6) _ ?_
 refine t_iand 9 (r := (own_ch p1)) X0.here hx hby at_8 (Eq.refl (own_ch p1)) rfl ?_
 refine t_i2c 10 (r := (own_ch p1)) X0.here hx hby at_9 (own_c2d (own_m16a p1) (own_m16b p1)) rfl ?_
 refine t_istore (pc' := 12) (L' := #[vi p0, vi p1, vi p2, vi p3, vi 1, vi ((own_ch p1)), .unset, .unset, .unset, .unset, .unset]) X0.here hx hby at_10 rfl rfl ?_
 refine t_iloadN 13 X0.here hx hby at_12 rfl rfl ?_
 refine t_iconst 14 (r := 2) X0.here hx hby at_13 (by decide) rfl ?_
 refine t_iushr 15 X0.here hx hby at_14 rfl rfl ?_
 refine t_iconst 16 (r := 1) X0.here hx hby at_15 (by decide) rfl ?_
 refine t_iand 17 (r := 1) X0.here hx hby at_16 hbit rfl ?_
 refine t_ifNo 20 X0.here hx hby at_17 (by decide) rfl ?_
 refine t_bipush 22 (r := 8) X0.here hx hby at_20 (by decide) rfl ?_
 refine st1 _ ?_
 refine t_dup 25 X1.here hx hby at_24 rfl rfl ?_
 refine t_iconst 26 (r := 0) X1.here hx hby at_25 (by decide) rfl ?_
 refine t_bipush 28 (r := 68) X1.here hx hby at_26 (by decide) rfl ?_
 refine st2 _ ?_
 refine t_dup 30 X2.here hx hby at_29 rfl rfl ?_
 refine t_iconst 31 (r := 1) X2.here hx hby at_30 (by decide) rfl ?_
 refine t_bipush 33 (r := 100) X2.here hx hby at_31 (by decide) rfl ?_
 refine st4 _ ?_
 refine t_dup 35 X4.here hx hby at_34 rfl rfl ?_
 refine t_iconst 36 (r := 2) X4.here hx hby at_35 (by decide) rfl ?_
 refine t_bipush 38 (r := 77) X4.here hx hby at_36 (by decide) rfl ?_
 refine st6 _ ?_
 refine t_dup 40 X6.here hx hby at_39 rfl rfl ?_
 refine t_iconst 41 (r := 3) X6.here hx hby at_40 (by decide) rfl ?_
 refine t_bipush 43 (r := 109) X6.here hx hby at_41 (by decide) rfl ?_
 refine st7 _ ?_
 refine t_dup 45 X7.here hx hby at_44 rfl rfl ?_
 refine t_iconst 46 (r := 4) X7.here hx hby at_45 (by decide) rfl ?_
 refine t_bipush 48 (r := 89) X7.here hx hby at_46 (by decide) rfl ?_
 refine st9 _ ?_
 refine t_dup 50 X9.here hx hby at_49 rfl rfl ?_
 refine t_iconst 51 (r := 5) X9.here hx hby at_50 (by decide) rfl ?_
 refine t_bipush 53 (r := 121) X9.here hx hby at_51 (by decide) rfl ?_
 refine st10 _ ?_
 refine t_dup 55 X10.here hx hby at_54 rfl rfl ?_
 refine t_bipush 57 (r := 6) X10.here hx hby at_55 (by decide) rfl ?_
 refine t_bipush 59 (r := 69) X10.here hx hby at_57 (by decide) rfl ?_
 refine st12 _ ?_
 refine t_dup 61 X12.here hx hby at_60 rfl rfl ?_
 refine t_bipush 63 (r := 7) X12.here hx hby at_61 (by decide) rfl ?_
 refine t_bipush 65 (r := 78) X12.here hx hby at_63 (by decide) rfl ?_
 refine st13 _ ?_
 refine t_astore (pc' := 68) (L' := #[vi p0, vi p1, vi p2, vi p3, vi 1, vi ((own_ch p1)), vr b1, .unset, .unset, .unset, .unset]) X13.here hx hby at_66 rfl rfl rfl ?_
 refine t_aload 70 X13.here hx hby at_68 rfl rfl rfl ?_
 refine t_iloadN 71 X13.here hx hby at_70 rfl rfl ?_
 refine X13.ldcInt hx hown (mvT hZ (w57 hw)) (g := (mkF m 71 #[vi p0, vi p1, vi p2, vi p3, vi 1, vi ((own_ch p1)), vr b1, .unset, .unset, .unset, .unset] [(.int p1), (.ref b1)])) rfl (hb hby at_71) _ ?_
 refine t_iand 74 X13.here hx hby at_73 rfl rfl ?_
 refine t_bipush 76 (r := 8) X13.here hx hby at_74 (by decide) rfl ?_
 refine t_irem 77 X13.here hx hby at_76 (by decide) rfl rfl ?_
 refine own_aldC (pc' := 78) X13 hx hZ e13 V13 (j := ((p1 &&& (2147483647 : Int32)) - ((p1 &&& (2147483647 : Int32)) / (8 : Int32)) * (8 : Int32))) (v := (.int (own_let p1))) (own_letb p1) (own_letv p1) (hb hby at_77) rfl ?_
 refine t_istore (pc' := 80) (L' := #[vi p0, vi p1, vi p2, vi p3, vi 1, vi ((own_let p1)), vr b1, .unset, .unset, .unset, .unset]) X13.here hx hby at_78 rfl rfl ?_
 refine t_iloadN 81 X13.here hx hby at_80 rfl rfl ?_
 refine X13.ldcInt hx hown (mvT hZ (w0 hw)) (g := (mkF m 81 #[vi p0, vi p1, vi p2, vi p3, vi 1, vi ((own_let p1)), vr b1, .unset, .unset, .unset, .unset] [(.int p2)])) rfl (hb hby at_81) _ ?_
 refine t_iand 84 (r := (own_ch p2)) X13.here hx hby at_83 (Eq.refl (own_ch p2)) rfl ?_
 refine t_i2c 85 (r := (own_ch p2)) X13.here hx hby at_84 (own_c2d (own_m16a p2) (own_m16b p2)) rfl ?_
 refine t_istore (pc' := 87) (L' := #[vi p0, vi p1, vi p2, vi p3, vi 1, vi ((own_let p1)), vi ((own_ch p2)), .unset, .unset, .unset, .unset]) X13.here hx hby at_85 rfl rfl ?_
 refine t_iloadN 88 X13.here hx hby at_87 rfl rfl ?_
 refine X13.ldcInt hx hown (mvT hZ (w0 hw)) (g := (mkF m 88 #[vi p0, vi p1, vi p2, vi p3, vi 1, vi ((own_let p1)), vi ((own_ch p2)), .unset, .unset, .unset, .unset] [(.int p3)])) rfl (hb hby at_88) _ ?_
 refine t_iand 91 (r := (own_ch p3)) X13.here hx hby at_90 (Eq.refl (own_ch p3)) rfl ?_
 refine t_i2c 92 (r := (own_ch p3)) X13.here hx hby at_91 (own_c2d (own_m16a p3) (own_m16b p3)) rfl ?_
 refine t_istore (pc' := 94) (L' := #[vi p0, vi p1, vi p2, vi p3, vi 1, vi ((own_let p1)), vi ((own_ch p2)), vi ((own_ch p3)), .unset, .unset, .unset]) X13.here hx hby at_92 rfl rfl ?_
 refine t_iload 96 X13.here hx hby at_94 rfl rfl ?_
 refine t_iload 98 X13.here hx hby at_96 rfl rfl ?_
 refine t_iload 100 X13.here hx hby at_98 rfl rfl ?_
 refine t_iload 102 X13.here hx hby at_100 rfl rfl ?_
 refine st15 _ ?_
 refine t_astore (pc' := 107) (L' := #[vi p0, vi p1, vi p2, vi p3, vi 1, vi ((own_let p1)), vi ((own_ch p2)), vi ((own_ch p3)), vr b5_5_15, .unset, .unset]) X15.here hx hby at_105 rfl rfl rfl ?_
 refine t_aload 109 X15.here hx hby at_107 rfl rfl rfl ?_
 refine st19 _ ?_
 refine t_astore (pc' := 114) (L' := #[vi p0, vi p1, vi p2, vi p3, vi 1, vi ((own_let p1)), vi ((own_ch p2)), vi ((own_ch p3)), vr b5_5_15, vr b1_4_19, .unset]) X19.here hx hby at_112 rfl rfl rfl ?_
 refine t_iload 116 X19.here hx hby at_114 rfl rfl ?_
 refine t_iload 118 X19.here hx hby at_116 rfl rfl ?_
 refine st22 _ ?_
 refine t_astore (pc' := 123) (L' := #[vi p0, vi p1, vi p2, vi p3, vi 1, vi ((own_let p1)), vi ((own_ch p2)), vi ((own_ch p3)), vr b5_5_15, vr b1_4_19, vr st_DAYS]) X22.here hx hby at_121 rfl rfl rfl ?_
 refine t_aload 125 X22.here hx hby at_123 rfl rfl rfl ?_
 refine t_ifnonnullYes (pc := 125) 142 X22.here hx hby at_125 (by decide) (by decide) ?_
 refine t_aload 144 X22.here hx hby at_142 rfl rfl rfl ?_
 refine st24 _ ?_
 refine t_ifNo 150 X24.here hx hby at_147 (by decide) rfl ?_
 refine t_aload 152 X24.here hx hby at_150 rfl rfl rfl ?_
 refine st25 _ ?_
 refine t_aload 157 X25.here hx hby at_155 rfl rfl rfl ?_
 refine Jvm.RoadKit.acmp (g := (mkF m 157 #[vi p0, vi p1, vi p2, vi p3, vi 1, vi ((own_let p1)), vi ((own_ch p2)), vi ((own_ch p3)), vr b5_5_15, vr b1_4_19, vr st_DAYS] [(.ref st_DAYS), (.ref st_DAYS)])) X25 hx rfl rfl rfl (pc0 := 157) (pc' := 160) (same := true) rfl (hb hby at_157) rfl (decide_eq_true rfl) (by decide) (by decide) ?_
 refine t_iconst 161 (r := 1) X25.here hx hby at_160 (by decide) rfl ?_
 refine t_goto (pc := 161) 165 X25.here hx hby at_161 (by decide) (by decide) ?_
 exact retN X25 hx (t := .boolean) hret (by simp) (hb hby at_165) hr
theorem law_b1_77 (l : Launch) (Z : State) (a0 : Array Value) (hw : HW Z a0) (ws : List Jvm.Cond) (p0 p1 p2 p3 cs : Int32) (fm : Value) (st_EMPTY st_DAYS st_MONTHS st_YEARS : Addr) (h0 : Heap) (n0 : Nat) (Z0 : n0 ≤ h0.size) (ha : (own_let p1) = (77 : Int32) ∨ (own_let p1) = (109 : Int32)) (hcs : ¬ (cs = (0 : Int32))) (hfm : fm.isRef = true) (hln : (p0 &&& (3 : Int32)) = (1 : Int32)) (hbit : (((p0.toUInt32 >>> ((2 : Int32) &&& 31).toUInt32).toInt32) &&& (1 : Int32)) = (1 : Int32)) (sCS : SCS Z cs) (O0 : Old Z n0 h0) (S_SIOOBE_FORMATTER : Sa0 Z fm) (S_MONTHS : Sa2 Z (.ref st_MONTHS)) :
    LawM l Z ws p0 p1 p2 p3 h0 n0 := by
 refine own_bodyH (k := 4) (n := 14) (y := x) (Q := fun v _ L => Q_law n0 v L) (own_EW hw) (plainFor_of_name pn_PaymentFrequencyUnitOfPinLaw855) (ef_law p0 p1 p2 p3) (by decide) (by decide) ?_
 intro p e s m below meth c s₁ hx hby hml hown hnm hret hZ e0 hS0 hk0 X0 hC0 hSF0
 have N0 := Fr.nil n0
 obtain ⟨T1, h1, k1, X1, e1, E1, A1, st1⟩ := newP (aty := .char) X0 hx hZ (w8 hw) e0 (g := (mkF m 22 #[vi p0, vi p1, vi p2, vi p3, vi 1, vi ((own_ch p1)), .unset, .unset, .unset, .unset, .unset] [(.int 8)])) rfl (hb hby at_22) rfl (by decide) (cap := 8) (by decide) (by decide) (by decide) (by decide)
 obtain ⟨b1, g1⟩ : ∃ z, z = h0.size := ⟨_, rfl⟩
 rw [← g1] at A1 st1
 have ge_b1 : h0.size ≤ b1 := Nat.le_of_eq g1.symm
 have K1 := KL.ofE E1
 have Ck0 := own_chK K1 na0 (CHr.refl hC0).1
 have Ah1 := (CHr.refl hC0).trans Ck0.1
 have V1 : Arv Z h1 b1 k1 .char 8 [z0, z0, z0, z0, z0, z0, z0, z0] z0 := (Arv.new A1 (by decide)).pad (pad_rep [] z0 8)
 obtain ⟨T2, h2, X2, e2, W2, V2, st2⟩ := own_astC X1 hx hZ e1 V1 (j := 0) (by decide) 0 rfl (Nat.le_of_ble_eq_true rfl) (g := (mkF m 28 #[vi p0, vi p1, vi p2, vi p3, vi 1, vi ((own_ch p1)), .unset, .unset, .unset, .unset, .unset] [(.int 68), z0, (.ref b1), (.ref b1)])) rfl rfl (hb hby at_28)
 rw [show (nar .char 68) = (68 : Int32) from by decide] at V2
 have gg3 := Nat.le_trans Z0 ge_b1
 have K2 := KL.ofW W2
 have Ck1 := own_chK K2 (naF (Ck0.2 _ (Safe.new ge_b1)) na0) Ah1.1
 have Ah2 := Ah1.trans Ck1.1
 replace V2 : Arv Z h2 b1 k1 .char 8 [(.int 68), z0, z0, z0, z0, z0, z0, z0] z0 := V2
 have N2 := Fr.snoc X2 N0 gg3
 obtain ⟨T4, h4, X4, e4, W4, V4, st4⟩ := own_astC X2 hx hZ e2 V2 (j := 1) (by decide) 1 rfl (Nat.le_of_ble_eq_true rfl) (g := (mkF m 33 #[vi p0, vi p1, vi p2, vi p3, vi 1, vi ((own_ch p1)), .unset, .unset, .unset, .unset, .unset] [(.int 100), (.int 1), (.ref b1), (.ref b1)])) rfl rfl (hb hby at_33)
 rw [show (nar .char 100) = (100 : Int32) from by decide] at V4
 have K4 := KL.ofW W4
 have sf5 := (Ck1.2 _ (Ck0.2 _ (Safe.new ge_b1)))
 have Ck2 := own_chK K4 (naF sf5 na0) Ah2.1
 have Ah3 := Ah2.trans Ck2.1
 replace V4 : Arv Z h4 b1 k1 .char 8 [(.int 68), (.int 100), z0, z0, z0, z0, z0, z0] z0 := V4
 have N4 := Fr.snoc X4 N2 gg3
 obtain ⟨T6, h6, X6, e6, W6, V6, st6⟩ := own_astC X4 hx hZ e4 V4 (j := 2) (by decide) 2 rfl (Nat.le_of_ble_eq_true rfl) (g := (mkF m 38 #[vi p0, vi p1, vi p2, vi p3, vi 1, vi ((own_ch p1)), .unset, .unset, .unset, .unset, .unset] [(.int 77), (.int 2), (.ref b1), (.ref b1)])) rfl rfl (hb hby at_38)
 rw [show (nar .char 77) = (77 : Int32) from by decide] at V6
 have K6 := KL.ofW W6
 have Ck3 := own_chK K6 (naF (Ck2.2 _ sf5) na0) Ah3.1
 have Ah4 := Ah3.trans Ck3.1
 replace V6 : Arv Z h6 b1 k1 .char 8 [(.int 68), (.int 100), (.int 77), z0, z0, z0, z0, z0] z0 := V6
 have N6 := Fr.snoc X6 N4 gg3
 obtain ⟨T7, h7, X7, e7, W7, V7, st7⟩ := own_astC X6 hx hZ e6 V6 (j := 3) (by decide) 3 rfl (Nat.le_of_ble_eq_true rfl) (g := (mkF m 43 #[vi p0, vi p1, vi p2, vi p3, vi 1, vi ((own_ch p1)), .unset, .unset, .unset, .unset, .unset] [(.int 109), (.int 3), (.ref b1), (.ref b1)])) rfl rfl (hb hby at_43)
 rw [show (nar .char 109) = (109 : Int32) from by decide] at V7
 have K7 := KL.ofW W7
 have sf8 := (Ck3.2 _ (Ck2.2 _ sf5))
 have Ck4 := own_chK K7 (naF sf8 na0) Ah4.1
 have Ah5 := Ah4.trans Ck4.1
 replace V7 : Arv Z h7 b1 k1 .char 8 [(.int 68), (.int 100), (.int 77), (.int 109), z0, z0, z0, z0] z0 := V7
 have N7 := Fr.snoc X7 N6 gg3
 obtain ⟨T9, h9, X9, e9, W9, V9, st9⟩ := own_astC X7 hx hZ e7 V7 (j := 4) (by decide) 4 rfl (Nat.le_of_ble_eq_true rfl) (g := (mkF m 48 #[vi p0, vi p1, vi p2, vi p3, vi 1, vi ((own_ch p1)), .unset, .unset, .unset, .unset, .unset] [(.int 89), (.int 4), (.ref b1), (.ref b1)])) rfl rfl (hb hby at_48)
 rw [show (nar .char 89) = (89 : Int32) from by decide] at V9
 have K9 := KL.ofW W9
 have Ck5 := own_chK K9 (naF (Ck4.2 _ sf8) na0) Ah5.1
 have Ah6 := Ah5.trans Ck5.1
 replace V9 : Arv Z h9 b1 k1 .char 8 [(.int 68), (.int 100), (.int 77), (.int 109), (.int 89), z0, z0, z0] z0 := V9
 have N9 := Fr.snoc X9 N7 gg3
 obtain ⟨T10, h10, X10, e10, W10, V10, st10⟩ := own_astC X9 hx hZ e9 V9 (j := 5) (by decide) 5 rfl (Nat.le_of_ble_eq_true rfl) (g := (mkF m 53 #[vi p0, vi p1, vi p2, vi p3, vi 1, vi ((own_ch p1)), .unset, .unset, .unset, .unset, .unset] [(.int 121), (.int 5), (.ref b1), (.ref b1)])) rfl rfl (hb hby at_53)
 rw [show (nar .char 121) = (121 : Int32) from by decide] at V10
 have K10 := KL.ofW W10
 have sf11 := (Ck5.2 _ (Ck4.2 _ sf8))
 have Ck6 := own_chK K10 (naF sf11 na0) Ah6.1
 have Ah7 := Ah6.trans Ck6.1
 replace V10 : Arv Z h10 b1 k1 .char 8 [(.int 68), (.int 100), (.int 77), (.int 109), (.int 89), (.int 121), z0, z0] z0 := V10
 have N10 := Fr.snoc X10 N9 gg3
 obtain ⟨T12, h12, X12, e12, W12, V12, st12⟩ := own_astC X10 hx hZ e10 V10 (j := 6) (by decide) 6 rfl (Nat.le_of_ble_eq_true rfl) (g := (mkF m 59 #[vi p0, vi p1, vi p2, vi p3, vi 1, vi ((own_ch p1)), .unset, .unset, .unset, .unset, .unset] [(.int 69), (.int 6), (.ref b1), (.ref b1)])) rfl rfl (hb hby at_59)
 rw [show (nar .char 69) = (69 : Int32) from by decide] at V12
 have K12 := KL.ofW W12
 have Ck7 := own_chK K12 (naF (Ck6.2 _ sf11) na0) Ah7.1
 have Ah8 := Ah7.trans Ck7.1
 replace V12 : Arv Z h12 b1 k1 .char 8 [(.int 68), (.int 100), (.int 77), (.int 109), (.int 89), (.int 121), (.int 69), z0] z0 := V12
 have N12 := Fr.snoc X12 N10 gg3
 obtain ⟨T13, h13, X13, e13, W13, V13, st13⟩ := own_astC X12 hx hZ e12 V12 (j := 7) (by decide) 7 rfl (Nat.le_of_ble_eq_true rfl) (g := (mkF m 65 #[vi p0, vi p1, vi p2, vi p3, vi 1, vi ((own_ch p1)), .unset, .unset, .unset, .unset, .unset] [(.int 78), (.int 7), (.ref b1), (.ref b1)])) rfl rfl (hb hby at_65)
 rw [show (nar .char 78) = (78 : Int32) from by decide] at V13
 have K13 := KL.ofW W13
 have sf14 := (Ck7.2 _ (Ck6.2 _ sf11))
 have Ck8 := own_chK K13 (naF sf14 na0) Ah8.1
 have Ah9 := Ah8.trans Ck8.1
 replace V13 : Arv Z h13 b1 k1 .char 8 [(.int 68), (.int 100), (.int 77), (.int 109), (.int 89), (.int 121), (.int 69), (.int 78)] z0 := V13
 have N13 := Fr.snoc X13 N12 gg3
 have f16 := (kOld K13 (kOld K12 (kOld K10 (kOld K9 (kOld K7 (kOld K6 (kOld K4 (kOld K2 (kOld K1 O0 na0) (naG gg3 na0)) (naG gg3 na0)) (naG gg3 na0)) (naG gg3 na0)) (naG gg3 na0)) (naG gg3 na0)) (naG gg3 na0)) (naG gg3 na0))
 have sz_0_2 := (Nat.le_trans K1.1 K2.1)
 have sz_0_3 := (Nat.le_trans sz_0_2 K4.1)
 have sz_0_4 := (Nat.le_trans sz_0_3 K6.1)
 have sz_0_5 := (Nat.le_trans sz_0_4 K7.1)
 have sz_0_6 := (Nat.le_trans sz_0_5 K9.1)
 have sz_0_7 := (Nat.le_trans sz_0_6 K10.1)
 have sz_0_8 := (Nat.le_trans sz_0_7 K12.1)
 have sz_0_9 := (Nat.le_trans sz_0_8 K13.1)
 obtain ⟨_, T15, L15, X15, hQ15, st15⟩ := own_static X13 hx hZ hown (w1 hw) (w2 hw) (w3 hw) (w4 hw) (by decide) (r16_make l Z a0 hw [] (own_let p1) (own_ch p2) (own_ch p3) cs h13 n0 (Nat.le_trans Z0 sz_0_9) sCS f16 hcs (own_lt255 ha (by decide) (by decide))) e13 (W := 0) (by decide) (g := (mkF m 102 #[vi p0, vi p1, vi p2, vi p3, vi 1, vi ((own_let p1)), vi ((own_ch p2)), vi ((own_ch p3)), .unset, .unset, .unset] [(.int (own_ch p3)), (.int (own_ch p2)), (.int (own_let p1)), (.int 1)])) rfl hml.symm (argsL := [(.int 1), (.int (own_let p1)), (.int (own_ch p2)), (.int (own_ch p3))]) (rest := []) (lenOf pd_11 rfl) rfl rfl (own_wr rfl rfl) (hb hby at_102)
 obtain ⟨b5_5_15, b2_6_5_15, k2_6_5_15, rfl, N15q, K15, Q15_0, Q15_1, Q15_2, Q15_3, Q15_4, Q15_5, Q15_6⟩ := hQ15
 have N15 := Fr.app N13 N15q
 have Ck9 := own_chK K15 na0 Ah9.1
 have Ah10 := Ah9.trans Ck9.1
 have f20 := (kOld K15 f16 na0)
 have sz_0_10 := (Nat.le_trans sz_0_9 K15.1)
 obtain ⟨_, T19, L19, X19, hQ19, st19⟩ := own_static X15 hx hZ hown (w27 hw) (w28 hw) (w29 hw) (w30 hw) (by decide) (r_un_MONTHS l Z a0 hw [] b5_5_15 b2_6_5_15 ((own_let p1).toInt8.toInt32) cs fm st_MONTHS k2_6_5_15 T15.heap n0 (Nat.le_trans Z0 sz_0_10) (own_b2o (own_leta p1) (own_lt255 ha (by decide) (by decide)) ha) hcs hfm Q15_3 Q15_4 Q15_6 sCS Q15_5 f20 S_SIOOBE_FORMATTER S_MONTHS) rfl (W := 0) (by decide) (g := (mkF m 109 #[vi p0, vi p1, vi p2, vi p3, vi 1, vi ((own_let p1)), vi ((own_ch p2)), vi ((own_ch p3)), vr b5_5_15, .unset, .unset] [(.ref b5_5_15)])) rfl hml.symm (argsL := [(.ref b5_5_15)]) (rest := []) (lenOf pd_12 rfl) rfl rfl (own_wr rfl rfl) (hb hby at_109)
 obtain ⟨b1_4_19, rfl, N19q, K19, Q19_0, Q19_1, Q19_2⟩ := hQ19
 have N19 := Fr.app N15 N19q
 have Ck10 := own_chK K19 na0 Ah10.1
 have Ah11 := Ah10.trans Ck10.1
 have f23 := (kOld K19 f20 na0)
 have sz_0_11 := (Nat.le_trans sz_0_10 K19.1)
 obtain ⟨_, T22, L22, X22, hQ22, st22⟩ := own_static X19 hx hZ hown (w47 hw) (w48 hw) (w3 hw) (w49 hw) (by decide) (r_ex_MONTHS l Z a0 hw [] (own_let p1) st_MONTHS T19.heap n0 (Nat.le_trans Z0 sz_0_11) ha S_MONTHS f23) rfl (W := 0) (by decide) (g := (mkF m 118 #[vi p0, vi p1, vi p2, vi p3, vi 1, vi ((own_let p1)), vi ((own_ch p2)), vi ((own_ch p3)), vr b5_5_15, vr b1_4_19, .unset] [(.int (own_let p1)), (.int 1)])) rfl hml.symm (argsL := [(.int 1), (.int (own_let p1))]) (rest := []) (lenOf pd_13 rfl) rfl rfl (own_wr rfl rfl) (hb hby at_118)
 obtain ⟨rfl, N22q, e22⟩ := hQ22
 have N22 := Fr.app N19 N22q
 obtain ⟨_, T24, L24, X24, hQ24, st24⟩ := own_virtual X22 hx hZ hown (w50 hw) (w51 hw) (nfS hZ (w53 hw)) (w53 hw) (w52 hw) (w44 hw) (w54 hw) (by decide) (r21_isPresent l Z a0 hw [] b1_4_19 st_MONTHS T19.heap n0 (Nat.le_trans Z0 sz_0_11) Q19_2) e22 Q19_1 (W := 0) (by decide) (g := (mkF m 144 #[vi p0, vi p1, vi p2, vi p3, vi 1, vi ((own_let p1)), vi ((own_ch p2)), vi ((own_ch p3)), vr b5_5_15, vr b1_4_19, vr st_MONTHS] [(.ref b1_4_19)])) rfl hml.symm (argsL := []) (rest := []) (lenOf pd_3 rfl) rfl rfl (own_wr rfl rfl) (hb hby at_144)
 obtain ⟨rfl, N24q, e24⟩ := hQ24
 have N24 := Fr.app N22 N24q
 obtain ⟨_, T25, L25, X25, hQ25, st25⟩ := own_virtual X24 hx hZ hown (w145 hw) (w146 hw) (nfS hZ (w148 hw)) (w148 hw) (w147 hw) (w44 hw) (w149 hw) (by decide) (r22_get l Z a0 hw [] b1_4_19 st_MONTHS T19.heap n0 (Nat.le_trans Z0 sz_0_11) Q19_2) e24 Q19_1 (W := 0) (by decide) (g := (mkF m 152 #[vi p0, vi p1, vi p2, vi p3, vi 1, vi ((own_let p1)), vi ((own_ch p2)), vi ((own_ch p3)), vr b5_5_15, vr b1_4_19, vr st_MONTHS] [(.ref b1_4_19)])) rfl hml.symm (argsL := []) (rest := []) (lenOf pd_18 rfl) rfl rfl (own_wr rfl rfl) (hb hby at_152)
 obtain ⟨rfl, N25q, e25⟩ := hQ25
 have N25 := Fr.app N24 N25q
 refine ⟨T25, _, some (.int 1), _, _, X25, hS0, (by rw [e25]; exact (Nat.le_trans hk0 sz_0_11)), (fun h => by cases h <;> rfl), ?_, (by rw [e25]; exact Ah11), hZ, fun fs hr => ?_⟩
 · show Q_law n0 _ _
   exact ⟨rfl, N25⟩
 refine t_iloadN 1 X0.here hx hby at_0 rfl rfl ?_
 refine t_iconst 2 (r := 3) X0.here hx hby at_1 (by decide) rfl ?_
 refine t_iand 3 (r := 1) X0.here hx hby at_2 hln rfl ?_
 refine t_istore (pc' := 5) (L' := #[vi p0, vi p1, vi p2, vi p3, vi 1, .unset, .unset, .unset, .unset, .unset, .unset]) X0.here hx hby at_3 rfl rfl ?_
 refine t_iloadN 6 X0.here hx hby at_5 rfl rfl ?_
 refine X0.ldcInt hx hown (mvT hZ (w0 hw)) (g := (mkF m 6 #[vi p0, vi p1, vi p2, vi p3, vi 1, .unset, .unset, .unset, .unset, .unset, .unset] [(.int p1)])) rfl (hb hby at_6) _ ?_
 refine t_iand 9 (r := (own_ch p1)) X0.here hx hby at_8 (Eq.refl (own_ch p1)) rfl ?_
 refine t_i2c 10 (r := (own_ch p1)) X0.here hx hby at_9 (own_c2d (own_m16a p1) (own_m16b p1)) rfl ?_
 refine t_istore (pc' := 12) (L' := #[vi p0, vi p1, vi p2, vi p3, vi 1, vi ((own_ch p1)), .unset, .unset, .unset, .unset, .unset]) X0.here hx hby at_10 rfl rfl ?_
 refine t_iloadN 13 X0.here hx hby at_12 rfl rfl ?_
 refine t_iconst 14 (r := 2) X0.here hx hby at_13 (by decide) rfl ?_
 refine t_iushr 15 X0.here hx hby at_14 rfl rfl ?_
 refine t_iconst 16 (r := 1) X0.here hx hby at_15 (by decide) rfl ?_
 refine t_iand 17 (r := 1) X0.here hx hby at_16 hbit rfl ?_
 refine t_ifNo 20 X0.here hx hby at_17 (by decide) rfl ?_
 refine t_bipush 22 (r := 8) X0.here hx hby at_20 (by decide) rfl ?_
 refine st1 _ ?_
 refine t_dup 25 X1.here hx hby at_24 rfl rfl ?_
 refine t_iconst 26 (r := 0) X1.here hx hby at_25 (by decide) rfl ?_
 refine t_bipush 28 (r := 68) X1.here hx hby at_26 (by decide) rfl ?_
 refine st2 _ ?_
 refine t_dup 30 X2.here hx hby at_29 rfl rfl ?_
 refine t_iconst 31 (r := 1) X2.here hx hby at_30 (by decide) rfl ?_
 refine t_bipush 33 (r := 100) X2.here hx hby at_31 (by decide) rfl ?_
 refine st4 _ ?_
 refine t_dup 35 X4.here hx hby at_34 rfl rfl ?_
 refine t_iconst 36 (r := 2) X4.here hx hby at_35 (by decide) rfl ?_
 refine t_bipush 38 (r := 77) X4.here hx hby at_36 (by decide) rfl ?_
 refine st6 _ ?_
 refine t_dup 40 X6.here hx hby at_39 rfl rfl ?_
 refine t_iconst 41 (r := 3) X6.here hx hby at_40 (by decide) rfl ?_
 refine t_bipush 43 (r := 109) X6.here hx hby at_41 (by decide) rfl ?_
 refine st7 _ ?_
 refine t_dup 45 X7.here hx hby at_44 rfl rfl ?_
 refine t_iconst 46 (r := 4) X7.here hx hby at_45 (by decide) rfl ?_
 refine t_bipush 48 (r := 89) X7.here hx hby at_46 (by decide) rfl ?_
 refine st9 _ ?_
 refine t_dup 50 X9.here hx hby at_49 rfl rfl ?_
 refine t_iconst 51 (r := 5) X9.here hx hby at_50 (by decide) rfl ?_
 refine t_bipush 53 (r := 121) X9.here hx hby at_51 (by decide) rfl ?_
 refine st10 _ ?_
 refine t_dup 55 X10.here hx hby at_54 rfl rfl ?_
 refine t_bipush 57 (r := 6) X10.here hx hby at_55 (by decide) rfl ?_
 refine t_bipush 59 (r := 69) X10.here hx hby at_57 (by decide) rfl ?_
 refine st12 _ ?_
 refine t_dup 61 X12.here hx hby at_60 rfl rfl ?_
 refine t_bipush 63 (r := 7) X12.here hx hby at_61 (by decide) rfl ?_
 refine t_bipush 65 (r := 78) X12.here hx hby at_63 (by decide) rfl ?_
 refine st13 _ ?_
 refine t_astore (pc' := 68) (L' := #[vi p0, vi p1, vi p2, vi p3, vi 1, vi ((own_ch p1)), vr b1, .unset, .unset, .unset, .unset]) X13.here hx hby at_66 rfl rfl rfl ?_
 refine t_aload 70 X13.here hx hby at_68 rfl rfl rfl ?_
 refine t_iloadN 71 X13.here hx hby at_70 rfl rfl ?_
 refine X13.ldcInt hx hown (mvT hZ (w57 hw)) (g := (mkF m 71 #[vi p0, vi p1, vi p2, vi p3, vi 1, vi ((own_ch p1)), vr b1, .unset, .unset, .unset, .unset] [(.int p1), (.ref b1)])) rfl (hb hby at_71) _ ?_
 refine t_iand 74 X13.here hx hby at_73 rfl rfl ?_
 refine t_bipush 76 (r := 8) X13.here hx hby at_74 (by decide) rfl ?_
 refine t_irem 77 X13.here hx hby at_76 (by decide) rfl rfl ?_
 refine own_aldC (pc' := 78) X13 hx hZ e13 V13 (j := ((p1 &&& (2147483647 : Int32)) - ((p1 &&& (2147483647 : Int32)) / (8 : Int32)) * (8 : Int32))) (v := (.int (own_let p1))) (own_letb p1) (own_letv p1) (hb hby at_77) rfl ?_
 refine t_istore (pc' := 80) (L' := #[vi p0, vi p1, vi p2, vi p3, vi 1, vi ((own_let p1)), vr b1, .unset, .unset, .unset, .unset]) X13.here hx hby at_78 rfl rfl ?_
 refine t_iloadN 81 X13.here hx hby at_80 rfl rfl ?_
 refine X13.ldcInt hx hown (mvT hZ (w0 hw)) (g := (mkF m 81 #[vi p0, vi p1, vi p2, vi p3, vi 1, vi ((own_let p1)), vr b1, .unset, .unset, .unset, .unset] [(.int p2)])) rfl (hb hby at_81) _ ?_
 refine t_iand 84 (r := (own_ch p2)) X13.here hx hby at_83 (Eq.refl (own_ch p2)) rfl ?_
 refine t_i2c 85 (r := (own_ch p2)) X13.here hx hby at_84 (own_c2d (own_m16a p2) (own_m16b p2)) rfl ?_
 refine t_istore (pc' := 87) (L' := #[vi p0, vi p1, vi p2, vi p3, vi 1, vi ((own_let p1)), vi ((own_ch p2)), .unset, .unset, .unset, .unset]) X13.here hx hby at_85 rfl rfl ?_
 refine t_iloadN 88 X13.here hx hby at_87 rfl rfl ?_
 refine X13.ldcInt hx hown (mvT hZ (w0 hw)) (g := (mkF m 88 #[vi p0, vi p1, vi p2, vi p3, vi 1, vi ((own_let p1)), vi ((own_ch p2)), .unset, .unset, .unset, .unset] [(.int p3)])) rfl (hb hby at_88) _ ?_
 refine t_iand 91 (r := (own_ch p3)) X13.here hx hby at_90 (Eq.refl (own_ch p3)) rfl ?_
 refine t_i2c 92 (r := (own_ch p3)) X13.here hx hby at_91 (own_c2d (own_m16a p3) (own_m16b p3)) rfl ?_
 refine t_istore (pc' := 94) (L' := #[vi p0, vi p1, vi p2, vi p3, vi 1, vi ((own_let p1)), vi ((own_ch p2)), vi ((own_ch p3)), .unset, .unset, .unset]) X13.here hx hby at_92 rfl rfl ?_
 refine t_iload 96 X13.here hx hby at_94 rfl rfl ?_
 refine t_iload 98 X13.here hx hby at_96 rfl rfl ?_
 refine t_iload 100 X13.here hx hby at_98 rfl rfl ?_
 refine t_iload 102 X13.here hx hby at_100 rfl rfl ?_
 refine st15 _ ?_
 refine t_astore (pc' := 107) (L' := #[vi p0, vi p1, vi p2, vi p3, vi 1, vi ((own_let p1)), vi ((own_ch p2)), vi ((own_ch p3)), vr b5_5_15, .unset, .unset]) X15.here hx hby at_105 rfl rfl rfl ?_
 refine t_aload 109 X15.here hx hby at_107 rfl rfl rfl ?_
 refine st19 _ ?_
 refine t_astore (pc' := 114) (L' := #[vi p0, vi p1, vi p2, vi p3, vi 1, vi ((own_let p1)), vi ((own_ch p2)), vi ((own_ch p3)), vr b5_5_15, vr b1_4_19, .unset]) X19.here hx hby at_112 rfl rfl rfl ?_
 refine t_iload 116 X19.here hx hby at_114 rfl rfl ?_
 refine t_iload 118 X19.here hx hby at_116 rfl rfl ?_
 refine st22 _ ?_
 refine t_astore (pc' := 123) (L' := #[vi p0, vi p1, vi p2, vi p3, vi 1, vi ((own_let p1)), vi ((own_ch p2)), vi ((own_ch p3)), vr b5_5_15, vr b1_4_19, vr st_MONTHS]) X22.here hx hby at_121 rfl rfl rfl ?_
 refine t_aload 125 X22.here hx hby at_123 rfl rfl rfl ?_
 refine t_ifnonnullYes (pc := 125) 142 X22.here hx hby at_125 (by decide) (by decide) ?_
 refine t_aload 144 X22.here hx hby at_142 rfl rfl rfl ?_
 refine st24 _ ?_
 refine t_ifNo 150 X24.here hx hby at_147 (by decide) rfl ?_
 refine t_aload 152 X24.here hx hby at_150 rfl rfl rfl ?_
 refine st25 _ ?_
 refine t_aload 157 X25.here hx hby at_155 rfl rfl rfl ?_
 refine Jvm.RoadKit.acmp (g := (mkF m 157 #[vi p0, vi p1, vi p2, vi p3, vi 1, vi ((own_let p1)), vi ((own_ch p2)), vi ((own_ch p3)), vr b5_5_15, vr b1_4_19, vr st_MONTHS] [(.ref st_MONTHS), (.ref st_MONTHS)])) X25 hx rfl rfl rfl (pc0 := 157) (pc' := 160) (same := true) rfl (hb hby at_157) rfl (decide_eq_true rfl) (by decide) (by decide) ?_
 refine t_iconst 161 (r := 1) X25.here hx hby at_160 (by decide) rfl ?_
 refine t_goto (pc := 161) 165 X25.here hx hby at_161 (by decide) (by decide) ?_
 exact retN X25 hx (t := .boolean) hret (by simp) (hb hby at_165) hr
theorem law_b1_89 (l : Launch) (Z : State) (a0 : Array Value) (hw : HW Z a0) (ws : List Jvm.Cond) (p0 p1 p2 p3 cs : Int32) (fm : Value) (st_EMPTY st_DAYS st_MONTHS st_YEARS : Addr) (h0 : Heap) (n0 : Nat) (Z0 : n0 ≤ h0.size) (ha : (own_let p1) = (89 : Int32) ∨ (own_let p1) = (121 : Int32)) (hcs : ¬ (cs = (0 : Int32))) (hfm : fm.isRef = true) (hln : (p0 &&& (3 : Int32)) = (1 : Int32)) (hbit : (((p0.toUInt32 >>> ((2 : Int32) &&& 31).toUInt32).toInt32) &&& (1 : Int32)) = (1 : Int32)) (sCS : SCS Z cs) (O0 : Old Z n0 h0) (S_SIOOBE_FORMATTER : Sa0 Z fm) (S_YEARS : Sa3 Z (.ref st_YEARS)) :
    LawM l Z ws p0 p1 p2 p3 h0 n0 := by
 refine own_bodyH (k := 4) (n := 14) (y := x) (Q := fun v _ L => Q_law n0 v L) (own_EW hw) (plainFor_of_name pn_PaymentFrequencyUnitOfPinLaw855) (ef_law p0 p1 p2 p3) (by decide) (by decide) ?_
 intro p e s m below meth c s₁ hx hby hml hown hnm hret hZ e0 hS0 hk0 X0 hC0 hSF0
 have N0 := Fr.nil n0
 obtain ⟨T1, h1, k1, X1, e1, E1, A1, st1⟩ := newP (aty := .char) X0 hx hZ (w8 hw) e0 (g := (mkF m 22 #[vi p0, vi p1, vi p2, vi p3, vi 1, vi ((own_ch p1)), .unset, .unset, .unset, .unset, .unset] [(.int 8)])) rfl (hb hby at_22) rfl (by decide) (cap := 8) (by decide) (by decide) (by decide) (by decide)
 obtain ⟨b1, g1⟩ : ∃ z, z = h0.size := ⟨_, rfl⟩
 rw [← g1] at A1 st1
 have ge_b1 : h0.size ≤ b1 := Nat.le_of_eq g1.symm
 have K1 := KL.ofE E1
 have Ck0 := own_chK K1 na0 (CHr.refl hC0).1
 have Ah1 := (CHr.refl hC0).trans Ck0.1
 have V1 : Arv Z h1 b1 k1 .char 8 [z0, z0, z0, z0, z0, z0, z0, z0] z0 := (Arv.new A1 (by decide)).pad (pad_rep [] z0 8)
 obtain ⟨T2, h2, X2, e2, W2, V2, st2⟩ := own_astC X1 hx hZ e1 V1 (j := 0) (by decide) 0 rfl (Nat.le_of_ble_eq_true rfl) (g := (mkF m 28 #[vi p0, vi p1, vi p2, vi p3, vi 1, vi ((own_ch p1)), .unset, .unset, .unset, .unset, .unset] [(.int 68), z0, (.ref b1), (.ref b1)])) rfl rfl (hb hby at_28)
 rw [show (nar .char 68) = (68 : Int32) from by decide] at V2
 have gg3 := Nat.le_trans Z0 ge_b1
 have K2 := KL.ofW W2
 have Ck1 := own_chK K2 (naF (Ck0.2 _ (Safe.new ge_b1)) na0) Ah1.1
 have Ah2 := Ah1.trans Ck1.1
 replace V2 : Arv Z h2 b1 k1 .char 8 [(.int 68), z0, z0, z0, z0, z0, z0, z0] z0 := V2
 have N2 := Fr.snoc X2 N0 gg3
 obtain ⟨T4, h4, X4, e4, W4, V4, st4⟩ := own_astC X2 hx hZ e2 V2 (j := 1) (by decide) 1 rfl (Nat.le_of_ble_eq_true rfl) (g := (mkF m 33 #[vi p0, vi p1, vi p2, vi p3, vi 1, vi ((own_ch p1)), .unset, .unset, .unset, .unset, .unset] [(.int 100), (.int 1), (.ref b1), (.ref b1)])) rfl rfl (hb hby at_33)
 rw [show (nar .char 100) = (100 : Int32) from by decide] at V4
 have K4 := KL.ofW W4
 have sf5 := (Ck1.2 _ (Ck0.2 _ (Safe.new ge_b1)))
 have Ck2 := own_chK K4 (naF sf5 na0) Ah2.1
 have Ah3 := Ah2.trans Ck2.1
 replace V4 : Arv Z h4 b1 k1 .char 8 [(.int 68), (.int 100), z0, z0, z0, z0, z0, z0] z0 := V4
 have N4 := Fr.snoc X4 N2 gg3
 obtain ⟨T6, h6, X6, e6, W6, V6, st6⟩ := own_astC X4 hx hZ e4 V4 (j := 2) (by decide) 2 rfl (Nat.le_of_ble_eq_true rfl) (g := (mkF m 38 #[vi p0, vi p1, vi p2, vi p3, vi 1, vi ((own_ch p1)), .unset, .unset, .unset, .unset, .unset] [(.int 77), (.int 2), (.ref b1), (.ref b1)])) rfl rfl (hb hby at_38)
 rw [show (nar .char 77) = (77 : Int32) from by decide] at V6
 have K6 := KL.ofW W6
 have Ck3 := own_chK K6 (naF (Ck2.2 _ sf5) na0) Ah3.1
 have Ah4 := Ah3.trans Ck3.1
 replace V6 : Arv Z h6 b1 k1 .char 8 [(.int 68), (.int 100), (.int 77), z0, z0, z0, z0, z0] z0 := V6
 have N6 := Fr.snoc X6 N4 gg3
 obtain ⟨T7, h7, X7, e7, W7, V7, st7⟩ := own_astC X6 hx hZ e6 V6 (j := 3) (by decide) 3 rfl (Nat.le_of_ble_eq_true rfl) (g := (mkF m 43 #[vi p0, vi p1, vi p2, vi p3, vi 1, vi ((own_ch p1)), .unset, .unset, .unset, .unset, .unset] [(.int 109), (.int 3), (.ref b1), (.ref b1)])) rfl rfl (hb hby at_43)
 rw [show (nar .char 109) = (109 : Int32) from by decide] at V7
 have K7 := KL.ofW W7
 have sf8 := (Ck3.2 _ (Ck2.2 _ sf5))
 have Ck4 := own_chK K7 (naF sf8 na0) Ah4.1
 have Ah5 := Ah4.trans Ck4.1
 replace V7 : Arv Z h7 b1 k1 .char 8 [(.int 68), (.int 100), (.int 77), (.int 109), z0, z0, z0, z0] z0 := V7
 have N7 := Fr.snoc X7 N6 gg3
 obtain ⟨T9, h9, X9, e9, W9, V9, st9⟩ := own_astC X7 hx hZ e7 V7 (j := 4) (by decide) 4 rfl (Nat.le_of_ble_eq_true rfl) (g := (mkF m 48 #[vi p0, vi p1, vi p2, vi p3, vi 1, vi ((own_ch p1)), .unset, .unset, .unset, .unset, .unset] [(.int 89), (.int 4), (.ref b1), (.ref b1)])) rfl rfl (hb hby at_48)
 rw [show (nar .char 89) = (89 : Int32) from by decide] at V9
 have K9 := KL.ofW W9
 have Ck5 := own_chK K9 (naF (Ck4.2 _ sf8) na0) Ah5.1
 have Ah6 := Ah5.trans Ck5.1
 replace V9 : Arv Z h9 b1 k1 .char 8 [(.int 68), (.int 100), (.int 77), (.int 109), (.int 89), z0, z0, z0] z0 := V9
 have N9 := Fr.snoc X9 N7 gg3
 obtain ⟨T10, h10, X10, e10, W10, V10, st10⟩ := own_astC X9 hx hZ e9 V9 (j := 5) (by decide) 5 rfl (Nat.le_of_ble_eq_true rfl) (g := (mkF m 53 #[vi p0, vi p1, vi p2, vi p3, vi 1, vi ((own_ch p1)), .unset, .unset, .unset, .unset, .unset] [(.int 121), (.int 5), (.ref b1), (.ref b1)])) rfl rfl (hb hby at_53)
 rw [show (nar .char 121) = (121 : Int32) from by decide] at V10
 have K10 := KL.ofW W10
 have sf11 := (Ck5.2 _ (Ck4.2 _ sf8))
 have Ck6 := own_chK K10 (naF sf11 na0) Ah6.1
 have Ah7 := Ah6.trans Ck6.1
 replace V10 : Arv Z h10 b1 k1 .char 8 [(.int 68), (.int 100), (.int 77), (.int 109), (.int 89), (.int 121), z0, z0] z0 := V10
 have N10 := Fr.snoc X10 N9 gg3
 obtain ⟨T12, h12, X12, e12, W12, V12, st12⟩ := own_astC X10 hx hZ e10 V10 (j := 6) (by decide) 6 rfl (Nat.le_of_ble_eq_true rfl) (g := (mkF m 59 #[vi p0, vi p1, vi p2, vi p3, vi 1, vi ((own_ch p1)), .unset, .unset, .unset, .unset, .unset] [(.int 69), (.int 6), (.ref b1), (.ref b1)])) rfl rfl (hb hby at_59)
 rw [show (nar .char 69) = (69 : Int32) from by decide] at V12
 have K12 := KL.ofW W12
 have Ck7 := own_chK K12 (naF (Ck6.2 _ sf11) na0) Ah7.1
 have Ah8 := Ah7.trans Ck7.1
 replace V12 : Arv Z h12 b1 k1 .char 8 [(.int 68), (.int 100), (.int 77), (.int 109), (.int 89), (.int 121), (.int 69), z0] z0 := V12
 have N12 := Fr.snoc X12 N10 gg3
 obtain ⟨T13, h13, X13, e13, W13, V13, st13⟩ := own_astC X12 hx hZ e12 V12 (j := 7) (by decide) 7 rfl (Nat.le_of_ble_eq_true rfl) (g := (mkF m 65 #[vi p0, vi p1, vi p2, vi p3, vi 1, vi ((own_ch p1)), .unset, .unset, .unset, .unset, .unset] [(.int 78), (.int 7), (.ref b1), (.ref b1)])) rfl rfl (hb hby at_65)
 rw [show (nar .char 78) = (78 : Int32) from by decide] at V13
 have K13 := KL.ofW W13
 have sf14 := (Ck7.2 _ (Ck6.2 _ sf11))
 have Ck8 := own_chK K13 (naF sf14 na0) Ah8.1
 have Ah9 := Ah8.trans Ck8.1
 replace V13 : Arv Z h13 b1 k1 .char 8 [(.int 68), (.int 100), (.int 77), (.int 109), (.int 89), (.int 121), (.int 69), (.int 78)] z0 := V13
 have N13 := Fr.snoc X13 N12 gg3
 have f16 := (kOld K13 (kOld K12 (kOld K10 (kOld K9 (kOld K7 (kOld K6 (kOld K4 (kOld K2 (kOld K1 O0 na0) (naG gg3 na0)) (naG gg3 na0)) (naG gg3 na0)) (naG gg3 na0)) (naG gg3 na0)) (naG gg3 na0)) (naG gg3 na0)) (naG gg3 na0))
 have sz_0_2 := (Nat.le_trans K1.1 K2.1)
 have sz_0_3 := (Nat.le_trans sz_0_2 K4.1)
 have sz_0_4 := (Nat.le_trans sz_0_3 K6.1)
 have sz_0_5 := (Nat.le_trans sz_0_4 K7.1)
 have sz_0_6 := (Nat.le_trans sz_0_5 K9.1)
 have sz_0_7 := (Nat.le_trans sz_0_6 K10.1)
 have sz_0_8 := (Nat.le_trans sz_0_7 K12.1)
 have sz_0_9 := (Nat.le_trans sz_0_8 K13.1)
 obtain ⟨_, T15, L15, X15, hQ15, st15⟩ := own_static X13 hx hZ hown (w1 hw) (w2 hw) (w3 hw) (w4 hw) (by decide) (r16_make l Z a0 hw [] (own_let p1) (own_ch p2) (own_ch p3) cs h13 n0 (Nat.le_trans Z0 sz_0_9) sCS f16 hcs (own_lt255 ha (by decide) (by decide))) e13 (W := 0) (by decide) (g := (mkF m 102 #[vi p0, vi p1, vi p2, vi p3, vi 1, vi ((own_let p1)), vi ((own_ch p2)), vi ((own_ch p3)), .unset, .unset, .unset] [(.int (own_ch p3)), (.int (own_ch p2)), (.int (own_let p1)), (.int 1)])) rfl hml.symm (argsL := [(.int 1), (.int (own_let p1)), (.int (own_ch p2)), (.int (own_ch p3))]) (rest := []) (lenOf pd_11 rfl) rfl rfl (own_wr rfl rfl) (hb hby at_102)
 obtain ⟨b5_5_15, b2_6_5_15, k2_6_5_15, rfl, N15q, K15, Q15_0, Q15_1, Q15_2, Q15_3, Q15_4, Q15_5, Q15_6⟩ := hQ15
 have N15 := Fr.app N13 N15q
 have Ck9 := own_chK K15 na0 Ah9.1
 have Ah10 := Ah9.trans Ck9.1
 have f20 := (kOld K15 f16 na0)
 have sz_0_10 := (Nat.le_trans sz_0_9 K15.1)
 obtain ⟨_, T19, L19, X19, hQ19, st19⟩ := own_static X15 hx hZ hown (w27 hw) (w28 hw) (w29 hw) (w30 hw) (by decide) (r_un_YEARS l Z a0 hw [] b5_5_15 b2_6_5_15 ((own_let p1).toInt8.toInt32) cs fm st_YEARS k2_6_5_15 T15.heap n0 (Nat.le_trans Z0 sz_0_10) (own_b2o (own_leta p1) (own_lt255 ha (by decide) (by decide)) ha) hcs hfm Q15_3 Q15_4 Q15_6 sCS Q15_5 f20 S_SIOOBE_FORMATTER S_YEARS) rfl (W := 0) (by decide) (g := (mkF m 109 #[vi p0, vi p1, vi p2, vi p3, vi 1, vi ((own_let p1)), vi ((own_ch p2)), vi ((own_ch p3)), vr b5_5_15, .unset, .unset] [(.ref b5_5_15)])) rfl hml.symm (argsL := [(.ref b5_5_15)]) (rest := []) (lenOf pd_12 rfl) rfl rfl (own_wr rfl rfl) (hb hby at_109)
 obtain ⟨b1_4_19, rfl, N19q, K19, Q19_0, Q19_1, Q19_2⟩ := hQ19
 have N19 := Fr.app N15 N19q
 have Ck10 := own_chK K19 na0 Ah10.1
 have Ah11 := Ah10.trans Ck10.1
 have f23 := (kOld K19 f20 na0)
 have sz_0_11 := (Nat.le_trans sz_0_10 K19.1)
 obtain ⟨_, T22, L22, X22, hQ22, st22⟩ := own_static X19 hx hZ hown (w47 hw) (w48 hw) (w3 hw) (w49 hw) (by decide) (r_ex_YEARS l Z a0 hw [] (own_let p1) st_YEARS T19.heap n0 (Nat.le_trans Z0 sz_0_11) ha S_YEARS f23) rfl (W := 0) (by decide) (g := (mkF m 118 #[vi p0, vi p1, vi p2, vi p3, vi 1, vi ((own_let p1)), vi ((own_ch p2)), vi ((own_ch p3)), vr b5_5_15, vr b1_4_19, .unset] [(.int (own_let p1)), (.int 1)])) rfl hml.symm (argsL := [(.int 1), (.int (own_let p1))]) (rest := []) (lenOf pd_13 rfl) rfl rfl (own_wr rfl rfl) (hb hby at_118)
 obtain ⟨rfl, N22q, e22⟩ := hQ22
 have N22 := Fr.app N19 N22q
 obtain ⟨_, T24, L24, X24, hQ24, st24⟩ := own_virtual X22 hx hZ hown (w50 hw) (w51 hw) (nfS hZ (w53 hw)) (w53 hw) (w52 hw) (w44 hw) (w54 hw) (by decide) (r21_isPresent l Z a0 hw [] b1_4_19 st_YEARS T19.heap n0 (Nat.le_trans Z0 sz_0_11) Q19_2) e22 Q19_1 (W := 0) (by decide) (g := (mkF m 144 #[vi p0, vi p1, vi p2, vi p3, vi 1, vi ((own_let p1)), vi ((own_ch p2)), vi ((own_ch p3)), vr b5_5_15, vr b1_4_19, vr st_YEARS] [(.ref b1_4_19)])) rfl hml.symm (argsL := []) (rest := []) (lenOf pd_3 rfl) rfl rfl (own_wr rfl rfl) (hb hby at_144)
 obtain ⟨rfl, N24q, e24⟩ := hQ24
 have N24 := Fr.app N22 N24q
 obtain ⟨_, T25, L25, X25, hQ25, st25⟩ := own_virtual X24 hx hZ hown (w145 hw) (w146 hw) (nfS hZ (w148 hw)) (w148 hw) (w147 hw) (w44 hw) (w149 hw) (by decide) (r22_get l Z a0 hw [] b1_4_19 st_YEARS T19.heap n0 (Nat.le_trans Z0 sz_0_11) Q19_2) e24 Q19_1 (W := 0) (by decide) (g := (mkF m 152 #[vi p0, vi p1, vi p2, vi p3, vi 1, vi ((own_let p1)), vi ((own_ch p2)), vi ((own_ch p3)), vr b5_5_15, vr b1_4_19, vr st_YEARS] [(.ref b1_4_19)])) rfl hml.symm (argsL := []) (rest := []) (lenOf pd_18 rfl) rfl rfl (own_wr rfl rfl) (hb hby at_152)
 obtain ⟨rfl, N25q, e25⟩ := hQ25
 have N25 := Fr.app N24 N25q
 refine ⟨T25, _, some (.int 1), _, _, X25, hS0, (by rw [e25]; exact (Nat.le_trans hk0 sz_0_11)), (fun h => by cases h <;> rfl), ?_, (by rw [e25]; exact Ah11), hZ, fun fs hr => ?_⟩
 · show Q_law n0 _ _
   exact ⟨rfl, N25⟩
 refine t_iloadN 1 X0.here hx hby at_0 rfl rfl ?_
 refine t_iconst 2 (r := 3) X0.here hx hby at_1 (by decide) rfl ?_
 refine t_iand 3 (r := 1) X0.here hx hby at_2 hln rfl ?_
 refine t_istore (pc' := 5) (L' := #[vi p0, vi p1, vi p2, vi p3, vi 1, .unset, .unset, .unset, .unset, .unset, .unset]) X0.here hx hby at_3 rfl rfl ?_
 refine t_iloadN 6 X0.here hx hby at_5 rfl rfl ?_
 refine X0.ldcInt hx hown (mvT hZ (w0 hw)) (g := (mkF m 6 #[vi p0, vi p1, vi p2, vi p3, vi 1, .unset, .unset, .unset, .unset, .unset, .unset] [(.int p1)])) rfl (hb hby at_6) _ ?_
 refine t_iand 9 (r := (own_ch p1)) X0.here hx hby at_8 (Eq.refl (own_ch p1)) rfl ?_
 refine t_i2c 10 (r := (own_ch p1)) X0.here hx hby at_9 (own_c2d (own_m16a p1) (own_m16b p1)) rfl ?_
 refine t_istore (pc' := 12) (L' := #[vi p0, vi p1, vi p2, vi p3, vi 1, vi ((own_ch p1)), .unset, .unset, .unset, .unset, .unset]) X0.here hx hby at_10 rfl rfl ?_
 refine t_iloadN 13 X0.here hx hby at_12 rfl rfl ?_
 refine t_iconst 14 (r := 2) X0.here hx hby at_13 (by decide) rfl ?_
 refine t_iushr 15 X0.here hx hby at_14 rfl rfl ?_
 refine t_iconst 16 (r := 1) X0.here hx hby at_15 (by decide) rfl ?_
 refine t_iand 17 (r := 1) X0.here hx hby at_16 hbit rfl ?_
 refine t_ifNo 20 X0.here hx hby at_17 (by decide) rfl ?_
 refine t_bipush 22 (r := 8) X0.here hx hby at_20 (by decide) rfl ?_
 refine st1 _ ?_
 refine t_dup 25 X1.here hx hby at_24 rfl rfl ?_
 refine t_iconst 26 (r := 0) X1.here hx hby at_25 (by decide) rfl ?_
 refine t_bipush 28 (r := 68) X1.here hx hby at_26 (by decide) rfl ?_
 refine st2 _ ?_
 refine t_dup 30 X2.here hx hby at_29 rfl rfl ?_
 refine t_iconst 31 (r := 1) X2.here hx hby at_30 (by decide) rfl ?_
 refine t_bipush 33 (r := 100) X2.here hx hby at_31 (by decide) rfl ?_
 refine st4 _ ?_
 refine t_dup 35 X4.here hx hby at_34 rfl rfl ?_
 refine t_iconst 36 (r := 2) X4.here hx hby at_35 (by decide) rfl ?_
 refine t_bipush 38 (r := 77) X4.here hx hby at_36 (by decide) rfl ?_
 refine st6 _ ?_
 refine t_dup 40 X6.here hx hby at_39 rfl rfl ?_
 refine t_iconst 41 (r := 3) X6.here hx hby at_40 (by decide) rfl ?_
 refine t_bipush 43 (r := 109) X6.here hx hby at_41 (by decide) rfl ?_
 refine st7 _ ?_
 refine t_dup 45 X7.here hx hby at_44 rfl rfl ?_
 refine t_iconst 46 (r := 4) X7.here hx hby at_45 (by decide) rfl ?_
 refine t_bipush 48 (r := 89) X7.here hx hby at_46 (by decide) rfl ?_
 refine st9 _ ?_
 refine t_dup 50 X9.here hx hby at_49 rfl rfl ?_
 refine t_iconst 51 (r := 5) X9.here hx hby at_50 (by decide) rfl ?_
 refine t_bipush 53 (r := 121) X9.here hx hby at_51 (by decide) rfl ?_
 refine st10 _ ?_
 refine t_dup 55 X10.here hx hby at_54 rfl rfl ?_
 refine t_bipush 57 (r := 6) X10.here hx hby at_55 (by decide) rfl ?_
 refine t_bipush 59 (r := 69) X10.here hx hby at_57 (by decide) rfl ?_
 refine st12 _ ?_
 refine t_dup 61 X12.here hx hby at_60 rfl rfl ?_
 refine t_bipush 63 (r := 7) X12.here hx hby at_61 (by decide) rfl ?_
 refine t_bipush 65 (r := 78) X12.here hx hby at_63 (by decide) rfl ?_
 refine st13 _ ?_
 refine t_astore (pc' := 68) (L' := #[vi p0, vi p1, vi p2, vi p3, vi 1, vi ((own_ch p1)), vr b1, .unset, .unset, .unset, .unset]) X13.here hx hby at_66 rfl rfl rfl ?_
 refine t_aload 70 X13.here hx hby at_68 rfl rfl rfl ?_
 refine t_iloadN 71 X13.here hx hby at_70 rfl rfl ?_
 refine X13.ldcInt hx hown (mvT hZ (w57 hw)) (g := (mkF m 71 #[vi p0, vi p1, vi p2, vi p3, vi 1, vi ((own_ch p1)), vr b1, .unset, .unset, .unset, .unset] [(.int p1), (.ref b1)])) rfl (hb hby at_71) _ ?_
 refine t_iand 74 X13.here hx hby at_73 rfl rfl ?_
 refine t_bipush 76 (r := 8) X13.here hx hby at_74 (by decide) rfl ?_
 refine t_irem 77 X13.here hx hby at_76 (by decide) rfl rfl ?_
 refine own_aldC (pc' := 78) X13 hx hZ e13 V13 (j := ((p1 &&& (2147483647 : Int32)) - ((p1 &&& (2147483647 : Int32)) / (8 : Int32)) * (8 : Int32))) (v := (.int (own_let p1))) (own_letb p1) (own_letv p1) (hb hby at_77) rfl ?_
 refine t_istore (pc' := 80) (L' := #[vi p0, vi p1, vi p2, vi p3, vi 1, vi ((own_let p1)), vr b1, .unset, .unset, .unset, .unset]) X13.here hx hby at_78 rfl rfl ?_
 refine t_iloadN 81 X13.here hx hby at_80 rfl rfl ?_
 refine X13.ldcInt hx hown (mvT hZ (w0 hw)) (g := (mkF m 81 #[vi p0, vi p1, vi p2, vi p3, vi 1, vi ((own_let p1)), vr b1, .unset, .unset, .unset, .unset] [(.int p2)])) rfl (hb hby at_81) _ ?_
 refine t_iand 84 (r := (own_ch p2)) X13.here hx hby at_83 (Eq.refl (own_ch p2)) rfl ?_
 refine t_i2c 85 (r := (own_ch p2)) X13.here hx hby at_84 (own_c2d (own_m16a p2) (own_m16b p2)) rfl ?_
 refine t_istore (pc' := 87) (L' := #[vi p0, vi p1, vi p2, vi p3, vi 1, vi ((own_let p1)), vi ((own_ch p2)), .unset, .unset, .unset, .unset]) X13.here hx hby at_85 rfl rfl ?_
 refine t_iloadN 88 X13.here hx hby at_87 rfl rfl ?_
 refine X13.ldcInt hx hown (mvT hZ (w0 hw)) (g := (mkF m 88 #[vi p0, vi p1, vi p2, vi p3, vi 1, vi ((own_let p1)), vi ((own_ch p2)), .unset, .unset, .unset, .unset] [(.int p3)])) rfl (hb hby at_88) _ ?_
 refine t_iand 91 (r := (own_ch p3)) X13.here hx hby at_90 (Eq.refl (own_ch p3)) rfl ?_
 refine t_i2c 92 (r := (own_ch p3)) X13.here hx hby at_91 (own_c2d (own_m16a p3) (own_m16b p3)) rfl ?_
 refine t_istore (pc' := 94) (L' := #[vi p0, vi p1, vi p2, vi p3, vi 1, vi ((own_let p1)), vi ((own_ch p2)), vi ((own_ch p3)), .unset, .unset, .unset]) X13.here hx hby at_92 rfl rfl ?_
 refine t_iload 96 X13.here hx hby at_94 rfl rfl ?_
 refine t_iload 98 X13.here hx hby at_96 rfl rfl ?_
 refine t_iload 100 X13.here hx hby at_98 rfl rfl ?_
 refine t_iload 102 X13.here hx hby at_100 rfl rfl ?_
 refine st15 _ ?_
 refine t_astore (pc' := 107) (L' := #[vi p0, vi p1, vi p2, vi p3, vi 1, vi ((own_let p1)), vi ((own_ch p2)), vi ((own_ch p3)), vr b5_5_15, .unset, .unset]) X15.here hx hby at_105 rfl rfl rfl ?_
 refine t_aload 109 X15.here hx hby at_107 rfl rfl rfl ?_
 refine st19 _ ?_
 refine t_astore (pc' := 114) (L' := #[vi p0, vi p1, vi p2, vi p3, vi 1, vi ((own_let p1)), vi ((own_ch p2)), vi ((own_ch p3)), vr b5_5_15, vr b1_4_19, .unset]) X19.here hx hby at_112 rfl rfl rfl ?_
 refine t_iload 116 X19.here hx hby at_114 rfl rfl ?_
 refine t_iload 118 X19.here hx hby at_116 rfl rfl ?_
 refine st22 _ ?_
 refine t_astore (pc' := 123) (L' := #[vi p0, vi p1, vi p2, vi p3, vi 1, vi ((own_let p1)), vi ((own_ch p2)), vi ((own_ch p3)), vr b5_5_15, vr b1_4_19, vr st_YEARS]) X22.here hx hby at_121 rfl rfl rfl ?_
 refine t_aload 125 X22.here hx hby at_123 rfl rfl rfl ?_
 refine t_ifnonnullYes (pc := 125) 142 X22.here hx hby at_125 (by decide) (by decide) ?_
 refine t_aload 144 X22.here hx hby at_142 rfl rfl rfl ?_
 refine st24 _ ?_
 refine t_ifNo 150 X24.here hx hby at_147 (by decide) rfl ?_
 refine t_aload 152 X24.here hx hby at_150 rfl rfl rfl ?_
 refine st25 _ ?_
 refine t_aload 157 X25.here hx hby at_155 rfl rfl rfl ?_
 refine Jvm.RoadKit.acmp (g := (mkF m 157 #[vi p0, vi p1, vi p2, vi p3, vi 1, vi ((own_let p1)), vi ((own_ch p2)), vi ((own_ch p3)), vr b5_5_15, vr b1_4_19, vr st_YEARS] [(.ref st_YEARS), (.ref st_YEARS)])) X25 hx rfl rfl rfl (pc0 := 157) (pc' := 160) (same := true) rfl (hb hby at_157) rfl (decide_eq_true rfl) (by decide) (by decide) ?_
 refine t_iconst 161 (r := 1) X25.here hx hby at_160 (by decide) rfl ?_
 refine t_goto (pc := 161) 165 X25.here hx hby at_161 (by decide) (by decide) ?_
 exact retN X25 hx (t := .boolean) hret (by simp) (hb hby at_165) hr
theorem law_b1_s (l : Launch) (Z : State) (a0 : Array Value) (hw : HW Z a0) (ws : List Jvm.Cond) (p0 p1 p2 p3 cs : Int32) (fm : Value) (st_EMPTY st_DAYS st_MONTHS st_YEARS : Addr) (h0 : Heap) (n0 : Nat) (Z0 : n0 ≤ h0.size) (hn68 : ¬ ((own_let p1) = (68 : Int32))) (hn77 : ¬ ((own_let p1) = (77 : Int32))) (hn89 : ¬ ((own_let p1) = (89 : Int32))) (hn100 : ¬ ((own_let p1) = (100 : Int32))) (hn109 : ¬ ((own_let p1) = (109 : Int32))) (hn121 : ¬ ((own_let p1) = (121 : Int32))) (hcs : ¬ (cs = (0 : Int32))) (hfm : fm.isRef = true) (hln : (p0 &&& (3 : Int32)) = (1 : Int32)) (hbit : (((p0.toUInt32 >>> ((2 : Int32) &&& 31).toUInt32).toInt32) &&& (1 : Int32)) = (1 : Int32)) (sCS : SCS Z cs) (O0 : Old Z n0 h0) (S_SIOOBE_FORMATTER : Sa0 Z fm) (S_EMPTY : Sa4 Z (.ref st_EMPTY)) (E_st_EMPTY : Ex1 Z h0 st_EMPTY) (F_st_EMPTY_value : Fd2 Z h0 st_EMPTY .null) :
    LawM l Z ws p0 p1 p2 p3 h0 n0 := by
 refine own_bodyH (k := 3) (n := 13) (y := x) (Q := fun v _ L => Q_law n0 v L) (own_EW hw) (plainFor_of_name pn_PaymentFrequencyUnitOfPinLaw855) (ef_law p0 p1 p2 p3) (by decide) (by decide) ?_
 intro p e s m below meth c s₁ hx hby hml hown hnm hret hZ e0 hS0 hk0 X0 hC0 hSF0
 have N0 := Fr.nil n0
 obtain ⟨T1, h1, k1, X1, e1, E1, A1, st1⟩ := newP (aty := .char) X0 hx hZ (w8 hw) e0 (g := (mkF m 22 #[vi p0, vi p1, vi p2, vi p3, vi 1, vi ((own_ch p1)), .unset, .unset, .unset, .unset, .unset] [(.int 8)])) rfl (hb hby at_22) rfl (by decide) (cap := 8) (by decide) (by decide) (by decide) (by decide)
 obtain ⟨b1, g1⟩ : ∃ z, z = h0.size := ⟨_, rfl⟩
 rw [← g1] at A1 st1
 have ge_b1 : h0.size ≤ b1 := Nat.le_of_eq g1.symm
 have K1 := KL.ofE E1
 have Ck0 := own_chK K1 na0 (CHr.refl hC0).1
 have Ah1 := (CHr.refl hC0).trans Ck0.1
 have V1 : Arv Z h1 b1 k1 .char 8 [z0, z0, z0, z0, z0, z0, z0, z0] z0 := (Arv.new A1 (by decide)).pad (pad_rep [] z0 8)
 obtain ⟨T2, h2, X2, e2, W2, V2, st2⟩ := own_astC X1 hx hZ e1 V1 (j := 0) (by decide) 0 rfl (Nat.le_of_ble_eq_true rfl) (g := (mkF m 28 #[vi p0, vi p1, vi p2, vi p3, vi 1, vi ((own_ch p1)), .unset, .unset, .unset, .unset, .unset] [(.int 68), z0, (.ref b1), (.ref b1)])) rfl rfl (hb hby at_28)
 rw [show (nar .char 68) = (68 : Int32) from by decide] at V2
 have gg3 := Nat.le_trans Z0 ge_b1
 have K2 := KL.ofW W2
 have Ck1 := own_chK K2 (naF (Ck0.2 _ (Safe.new ge_b1)) na0) Ah1.1
 have Ah2 := Ah1.trans Ck1.1
 replace V2 : Arv Z h2 b1 k1 .char 8 [(.int 68), z0, z0, z0, z0, z0, z0, z0] z0 := V2
 have N2 := Fr.snoc X2 N0 gg3
 obtain ⟨T4, h4, X4, e4, W4, V4, st4⟩ := own_astC X2 hx hZ e2 V2 (j := 1) (by decide) 1 rfl (Nat.le_of_ble_eq_true rfl) (g := (mkF m 33 #[vi p0, vi p1, vi p2, vi p3, vi 1, vi ((own_ch p1)), .unset, .unset, .unset, .unset, .unset] [(.int 100), (.int 1), (.ref b1), (.ref b1)])) rfl rfl (hb hby at_33)
 rw [show (nar .char 100) = (100 : Int32) from by decide] at V4
 have K4 := KL.ofW W4
 have sf5 := (Ck1.2 _ (Ck0.2 _ (Safe.new ge_b1)))
 have Ck2 := own_chK K4 (naF sf5 na0) Ah2.1
 have Ah3 := Ah2.trans Ck2.1
 replace V4 : Arv Z h4 b1 k1 .char 8 [(.int 68), (.int 100), z0, z0, z0, z0, z0, z0] z0 := V4
 have N4 := Fr.snoc X4 N2 gg3
 obtain ⟨T6, h6, X6, e6, W6, V6, st6⟩ := own_astC X4 hx hZ e4 V4 (j := 2) (by decide) 2 rfl (Nat.le_of_ble_eq_true rfl) (g := (mkF m 38 #[vi p0, vi p1, vi p2, vi p3, vi 1, vi ((own_ch p1)), .unset, .unset, .unset, .unset, .unset] [(.int 77), (.int 2), (.ref b1), (.ref b1)])) rfl rfl (hb hby at_38)
 rw [show (nar .char 77) = (77 : Int32) from by decide] at V6
 have K6 := KL.ofW W6
 have Ck3 := own_chK K6 (naF (Ck2.2 _ sf5) na0) Ah3.1
 have Ah4 := Ah3.trans Ck3.1
 replace V6 : Arv Z h6 b1 k1 .char 8 [(.int 68), (.int 100), (.int 77), z0, z0, z0, z0, z0] z0 := V6
 have N6 := Fr.snoc X6 N4 gg3
 obtain ⟨T7, h7, X7, e7, W7, V7, st7⟩ := own_astC X6 hx hZ e6 V6 (j := 3) (by decide) 3 rfl (Nat.le_of_ble_eq_true rfl) (g := (mkF m 43 #[vi p0, vi p1, vi p2, vi p3, vi 1, vi ((own_ch p1)), .unset, .unset, .unset, .unset, .unset] [(.int 109), (.int 3), (.ref b1), (.ref b1)])) rfl rfl (hb hby at_43)
 rw [show (nar .char 109) = (109 : Int32) from by decide] at V7
 have K7 := KL.ofW W7
 have sf8 := (Ck3.2 _ (Ck2.2 _ sf5))
 have Ck4 := own_chK K7 (naF sf8 na0) Ah4.1
 have Ah5 := Ah4.trans Ck4.1
 replace V7 : Arv Z h7 b1 k1 .char 8 [(.int 68), (.int 100), (.int 77), (.int 109), z0, z0, z0, z0] z0 := V7
 have N7 := Fr.snoc X7 N6 gg3
 obtain ⟨T9, h9, X9, e9, W9, V9, st9⟩ := own_astC X7 hx hZ e7 V7 (j := 4) (by decide) 4 rfl (Nat.le_of_ble_eq_true rfl) (g := (mkF m 48 #[vi p0, vi p1, vi p2, vi p3, vi 1, vi ((own_ch p1)), .unset, .unset, .unset, .unset, .unset] [(.int 89), (.int 4), (.ref b1), (.ref b1)])) rfl rfl (hb hby at_48)
 rw [show (nar .char 89) = (89 : Int32) from by decide] at V9
 have K9 := KL.ofW W9
 have Ck5 := own_chK K9 (naF (Ck4.2 _ sf8) na0) Ah5.1
 have Ah6 := Ah5.trans Ck5.1
 replace V9 : Arv Z h9 b1 k1 .char 8 [(.int 68), (.int 100), (.int 77), (.int 109), (.int 89), z0, z0, z0] z0 := V9
 have N9 := Fr.snoc X9 N7 gg3
 obtain ⟨T10, h10, X10, e10, W10, V10, st10⟩ := own_astC X9 hx hZ e9 V9 (j := 5) (by decide) 5 rfl (Nat.le_of_ble_eq_true rfl) (g := (mkF m 53 #[vi p0, vi p1, vi p2, vi p3, vi 1, vi ((own_ch p1)), .unset, .unset, .unset, .unset, .unset] [(.int 121), (.int 5), (.ref b1), (.ref b1)])) rfl rfl (hb hby at_53)
 rw [show (nar .char 121) = (121 : Int32) from by decide] at V10
 have K10 := KL.ofW W10
 have sf11 := (Ck5.2 _ (Ck4.2 _ sf8))
 have Ck6 := own_chK K10 (naF sf11 na0) Ah6.1
 have Ah7 := Ah6.trans Ck6.1
 replace V10 : Arv Z h10 b1 k1 .char 8 [(.int 68), (.int 100), (.int 77), (.int 109), (.int 89), (.int 121), z0, z0] z0 := V10
 have N10 := Fr.snoc X10 N9 gg3
 obtain ⟨T12, h12, X12, e12, W12, V12, st12⟩ := own_astC X10 hx hZ e10 V10 (j := 6) (by decide) 6 rfl (Nat.le_of_ble_eq_true rfl) (g := (mkF m 59 #[vi p0, vi p1, vi p2, vi p3, vi 1, vi ((own_ch p1)), .unset, .unset, .unset, .unset, .unset] [(.int 69), (.int 6), (.ref b1), (.ref b1)])) rfl rfl (hb hby at_59)
 rw [show (nar .char 69) = (69 : Int32) from by decide] at V12
 have K12 := KL.ofW W12
 have Ck7 := own_chK K12 (naF (Ck6.2 _ sf11) na0) Ah7.1
 have Ah8 := Ah7.trans Ck7.1
 replace V12 : Arv Z h12 b1 k1 .char 8 [(.int 68), (.int 100), (.int 77), (.int 109), (.int 89), (.int 121), (.int 69), z0] z0 := V12
 have N12 := Fr.snoc X12 N10 gg3
 obtain ⟨T13, h13, X13, e13, W13, V13, st13⟩ := own_astC X12 hx hZ e12 V12 (j := 7) (by decide) 7 rfl (Nat.le_of_ble_eq_true rfl) (g := (mkF m 65 #[vi p0, vi p1, vi p2, vi p3, vi 1, vi ((own_ch p1)), .unset, .unset, .unset, .unset, .unset] [(.int 78), (.int 7), (.ref b1), (.ref b1)])) rfl rfl (hb hby at_65)
 rw [show (nar .char 78) = (78 : Int32) from by decide] at V13
 have K13 := KL.ofW W13
 have sf14 := (Ck7.2 _ (Ck6.2 _ sf11))
 have Ck8 := own_chK K13 (naF sf14 na0) Ah8.1
 have Ah9 := Ah8.trans Ck8.1
 replace V13 : Arv Z h13 b1 k1 .char 8 [(.int 68), (.int 100), (.int 77), (.int 109), (.int 89), (.int 121), (.int 69), (.int 78)] z0 := V13
 have N13 := Fr.snoc X13 N12 gg3
 have f16 := (kOld K13 (kOld K12 (kOld K10 (kOld K9 (kOld K7 (kOld K6 (kOld K4 (kOld K2 (kOld K1 O0 na0) (naG gg3 na0)) (naG gg3 na0)) (naG gg3 na0)) (naG gg3 na0)) (naG gg3 na0)) (naG gg3 na0)) (naG gg3 na0)) (naG gg3 na0))
 have sz_0_2 := (Nat.le_trans K1.1 K2.1)
 have sz_0_3 := (Nat.le_trans sz_0_2 K4.1)
 have sz_0_4 := (Nat.le_trans sz_0_3 K6.1)
 have sz_0_5 := (Nat.le_trans sz_0_4 K7.1)
 have sz_0_6 := (Nat.le_trans sz_0_5 K9.1)
 have sz_0_7 := (Nat.le_trans sz_0_6 K10.1)
 have sz_0_8 := (Nat.le_trans sz_0_7 K12.1)
 have sz_0_9 := (Nat.le_trans sz_0_8 K13.1)
 obtain ⟨_, T15, L15, X15, hQ15, st15⟩ := own_static X13 hx hZ hown (w1 hw) (w2 hw) (w3 hw) (w4 hw) (by decide) (r16_make l Z a0 hw [] (own_let p1) (own_ch p2) (own_ch p3) cs h13 n0 (Nat.le_trans Z0 sz_0_9) sCS f16 hcs (own_letd p1)) e13 (W := 0) (by decide) (g := (mkF m 102 #[vi p0, vi p1, vi p2, vi p3, vi 1, vi ((own_let p1)), vi ((own_ch p2)), vi ((own_ch p3)), .unset, .unset, .unset] [(.int (own_ch p3)), (.int (own_ch p2)), (.int (own_let p1)), (.int 1)])) rfl hml.symm (argsL := [(.int 1), (.int (own_let p1)), (.int (own_ch p2)), (.int (own_ch p3))]) (rest := []) (lenOf pd_11 rfl) rfl rfl (own_wr rfl rfl) (hb hby at_102)
 obtain ⟨b5_5_15, b2_6_5_15, k2_6_5_15, rfl, N15q, K15, Q15_0, Q15_1, Q15_2, Q15_3, Q15_4, Q15_5, Q15_6⟩ := hQ15
 have N15 := Fr.app N13 N15q
 have Ck9 := own_chK K15 na0 Ah9.1
 have Ah10 := Ah9.trans Ck9.1
 have f20 := (kOld K15 f16 na0)
 have sz_0_10 := (Nat.le_trans sz_0_9 K15.1)
 obtain ⟨_, T19, L19, X19, hQ19, st19⟩ := own_static X15 hx hZ hown (w27 hw) (w28 hw) (w29 hw) (w30 hw) (by decide) (r23_unitOf l Z a0 hw [] b5_5_15 b2_6_5_15 ((own_let p1).toInt8.toInt32) k2_6_5_15 cs fm st_EMPTY T15.heap n0 (Nat.le_trans Z0 sz_0_10) Q15_3 Q15_4 Q15_6 sCS Q15_5 f20 hcs S_SIOOBE_FORMATTER hfm (own_b2cN (own_leta p1) (own_letd p1) hn68) (own_b2cN (own_leta p1) (own_letd p1) hn77) (own_b2cN (own_leta p1) (own_letd p1) hn89) (own_b2cN (own_leta p1) (own_letd p1) hn100) (own_b2cN (own_leta p1) (own_letd p1) hn109) (own_b2cN (own_leta p1) (own_letd p1) hn121) S_EMPTY) rfl (W := 0) (by decide) (g := (mkF m 109 #[vi p0, vi p1, vi p2, vi p3, vi 1, vi ((own_let p1)), vi ((own_ch p2)), vi ((own_ch p3)), vr b5_5_15, .unset, .unset] [(.ref b5_5_15)])) rfl hml.symm (argsL := [(.ref b5_5_15)]) (rest := []) (lenOf pd_12 rfl) rfl rfl (own_wr rfl rfl) (hb hby at_109)
 obtain ⟨rfl, N19q, e19⟩ := hQ19
 have N19 := Fr.app N15 N19q
 obtain ⟨_, T21, L21, X21, hQ21, st21⟩ := own_static X19 hx hZ hown (w47 hw) (w48 hw) (w3 hw) (w49 hw) (by decide) (r24_expected l Z a0 hw [] (own_let p1) T15.heap n0 (Nat.le_trans Z0 sz_0_10) hn68 hn100 hn77 hn109 hn89 hn121) e19 (W := 0) (by decide) (g := (mkF m 118 #[vi p0, vi p1, vi p2, vi p3, vi 1, vi ((own_let p1)), vi ((own_ch p2)), vi ((own_ch p3)), vr b5_5_15, vr st_EMPTY, .unset] [(.int (own_let p1)), (.int 1)])) rfl hml.symm (argsL := [(.int 1), (.int (own_let p1))]) (rest := []) (lenOf pd_13 rfl) rfl rfl (own_wr rfl rfl) (hb hby at_118)
 obtain ⟨rfl, N21q, e21⟩ := hQ21
 have N21 := Fr.app N19 N21q
 have lt_st_EMPTY : st_EMPTY < h0.size := Exa.lt E_st_EMPTY
 have ne23 := lt_ne lt_st_EMPTY ge_b1
 have f24 := (kFld K15 (kFld K13 (kFld K12 (kFld K10 (kFld K9 (kFld K7 (kFld K6 (kFld K4 (kFld K2 (kFld K1 F_st_EMPTY_value nw0) (nwL ne23 nw0)) (nwL ne23 nw0)) (nwL ne23 nw0)) (nwL ne23 nw0)) (nwL ne23 nw0)) (nwL ne23 nw0)) (nwL ne23 nw0)) (nwL ne23 nw0)) nw0)
 have f25 := (kExa K15 (kExa K13 (kExa K12 (kExa K10 (kExa K9 (kExa K7 (kExa K6 (kExa K4 (kExa K2 (kExa K1 E_st_EMPTY))))))))))
 obtain ⟨_, T22, L22, X22, hQ22, st22⟩ := own_virtual X21 hx hZ hown (w50 hw) (w51 hw) (nfS hZ (w53 hw)) (w53 hw) (w52 hw) (w44 hw) (w54 hw) (by decide) (r15_isPresent l Z a0 hw [] st_EMPTY T15.heap n0 (Nat.le_trans Z0 sz_0_10) f24) e21 f25 (W := 0) (by decide) (g := (mkF m 130 #[vi p0, vi p1, vi p2, vi p3, vi 1, vi ((own_let p1)), vi ((own_ch p2)), vi ((own_ch p3)), vr b5_5_15, vr st_EMPTY, .val .null] [(.ref st_EMPTY)])) rfl hml.symm (argsL := []) (rest := []) (lenOf pd_3 rfl) rfl rfl (own_wr rfl rfl) (hb hby at_130)
 obtain ⟨rfl, N22q, e22⟩ := hQ22
 have N22 := Fr.app N21 N22q
 refine ⟨T22, _, some (.int 1), _, _, X22, hS0, (by rw [e22]; exact (Nat.le_trans hk0 sz_0_10)), (fun h => by cases h <;> rfl), ?_, (by rw [e22]; exact Ah10), hZ, fun fs hr => ?_⟩
 · show Q_law n0 _ _
   exact ⟨rfl, N22⟩
 refine t_iloadN 1 X0.here hx hby at_0 rfl rfl ?_
 refine t_iconst 2 (r := 3) X0.here hx hby at_1 (by decide) rfl ?_
 refine t_iand 3 (r := 1) X0.here hx hby at_2 hln rfl ?_
 refine t_istore (pc' := 5) (L' := #[vi p0, vi p1, vi p2, vi p3, vi 1, .unset, .unset, .unset, .unset, .unset, .unset]) X0.here hx hby at_3 rfl rfl ?_
 refine t_iloadN 6 X0.here hx hby at_5 rfl rfl ?_
 refine X0.ldcInt hx hown (mvT hZ (w0 hw)) (g := (mkF m 6 #[vi p0, vi p1, vi p2, vi p3, vi 1, .unset, .unset, .unset, .unset, .unset, .unset] [(.int p1)])) rfl (hb hby at_6) _ ?_
 refine t_iand 9 (r := (own_ch p1)) X0.here hx hby at_8 (Eq.refl (own_ch p1)) rfl ?_
 refine t_i2c 10 (r := (own_ch p1)) X0.here hx hby at_9 (own_c2d (own_m16a p1) (own_m16b p1)) rfl ?_
 refine t_istore (pc' := 12) (L' := #[vi p0, vi p1, vi p2, vi p3, vi 1, vi ((own_ch p1)), .unset, .unset, .unset, .unset, .unset]) X0.here hx hby at_10 rfl rfl ?_
 refine t_iloadN 13 X0.here hx hby at_12 rfl rfl ?_
 refine t_iconst 14 (r := 2) X0.here hx hby at_13 (by decide) rfl ?_
 refine t_iushr 15 X0.here hx hby at_14 rfl rfl ?_
 refine t_iconst 16 (r := 1) X0.here hx hby at_15 (by decide) rfl ?_
 refine t_iand 17 (r := 1) X0.here hx hby at_16 hbit rfl ?_
 refine t_ifNo 20 X0.here hx hby at_17 (by decide) rfl ?_
 refine t_bipush 22 (r := 8) X0.here hx hby at_20 (by decide) rfl ?_
 refine st1 _ ?_
 refine t_dup 25 X1.here hx hby at_24 rfl rfl ?_
 refine t_iconst 26 (r := 0) X1.here hx hby at_25 (by decide) rfl ?_
 refine t_bipush 28 (r := 68) X1.here hx hby at_26 (by decide) rfl ?_
 refine st2 _ ?_
 refine t_dup 30 X2.here hx hby at_29 rfl rfl ?_
 refine t_iconst 31 (r := 1) X2.here hx hby at_30 (by decide) rfl ?_
 refine t_bipush 33 (r := 100) X2.here hx hby at_31 (by decide) rfl ?_
 refine st4 _ ?_
 refine t_dup 35 X4.here hx hby at_34 rfl rfl ?_
 refine t_iconst 36 (r := 2) X4.here hx hby at_35 (by decide) rfl ?_
 refine t_bipush 38 (r := 77) X4.here hx hby at_36 (by decide) rfl ?_
 refine st6 _ ?_
 refine t_dup 40 X6.here hx hby at_39 rfl rfl ?_
 refine t_iconst 41 (r := 3) X6.here hx hby at_40 (by decide) rfl ?_
 refine t_bipush 43 (r := 109) X6.here hx hby at_41 (by decide) rfl ?_
 refine st7 _ ?_
 refine t_dup 45 X7.here hx hby at_44 rfl rfl ?_
 refine t_iconst 46 (r := 4) X7.here hx hby at_45 (by decide) rfl ?_
 refine t_bipush 48 (r := 89) X7.here hx hby at_46 (by decide) rfl ?_
 refine st9 _ ?_
 refine t_dup 50 X9.here hx hby at_49 rfl rfl ?_
 refine t_iconst 51 (r := 5) X9.here hx hby at_50 (by decide) rfl ?_
 refine t_bipush 53 (r := 121) X9.here hx hby at_51 (by decide) rfl ?_
 refine st10 _ ?_
 refine t_dup 55 X10.here hx hby at_54 rfl rfl ?_
 refine t_bipush 57 (r := 6) X10.here hx hby at_55 (by decide) rfl ?_
 refine t_bipush 59 (r := 69) X10.here hx hby at_57 (by decide) rfl ?_
 refine st12 _ ?_
 refine t_dup 61 X12.here hx hby at_60 rfl rfl ?_
 refine t_bipush 63 (r := 7) X12.here hx hby at_61 (by decide) rfl ?_
 refine t_bipush 65 (r := 78) X12.here hx hby at_63 (by decide) rfl ?_
 refine st13 _ ?_
 refine t_astore (pc' := 68) (L' := #[vi p0, vi p1, vi p2, vi p3, vi 1, vi ((own_ch p1)), vr b1, .unset, .unset, .unset, .unset]) X13.here hx hby at_66 rfl rfl rfl ?_
 refine t_aload 70 X13.here hx hby at_68 rfl rfl rfl ?_
 refine t_iloadN 71 X13.here hx hby at_70 rfl rfl ?_
 refine X13.ldcInt hx hown (mvT hZ (w57 hw)) (g := (mkF m 71 #[vi p0, vi p1, vi p2, vi p3, vi 1, vi ((own_ch p1)), vr b1, .unset, .unset, .unset, .unset] [(.int p1), (.ref b1)])) rfl (hb hby at_71) _ ?_
 refine t_iand 74 X13.here hx hby at_73 rfl rfl ?_
 refine t_bipush 76 (r := 8) X13.here hx hby at_74 (by decide) rfl ?_
 refine t_irem 77 X13.here hx hby at_76 (by decide) rfl rfl ?_
 refine own_aldC (pc' := 78) X13 hx hZ e13 V13 (j := ((p1 &&& (2147483647 : Int32)) - ((p1 &&& (2147483647 : Int32)) / (8 : Int32)) * (8 : Int32))) (v := (.int (own_let p1))) (own_letb p1) (own_letv p1) (hb hby at_77) rfl ?_
 refine t_istore (pc' := 80) (L' := #[vi p0, vi p1, vi p2, vi p3, vi 1, vi ((own_let p1)), vr b1, .unset, .unset, .unset, .unset]) X13.here hx hby at_78 rfl rfl ?_
 refine t_iloadN 81 X13.here hx hby at_80 rfl rfl ?_
 refine X13.ldcInt hx hown (mvT hZ (w0 hw)) (g := (mkF m 81 #[vi p0, vi p1, vi p2, vi p3, vi 1, vi ((own_let p1)), vr b1, .unset, .unset, .unset, .unset] [(.int p2)])) rfl (hb hby at_81) _ ?_
 refine t_iand 84 (r := (own_ch p2)) X13.here hx hby at_83 (Eq.refl (own_ch p2)) rfl ?_
 refine t_i2c 85 (r := (own_ch p2)) X13.here hx hby at_84 (own_c2d (own_m16a p2) (own_m16b p2)) rfl ?_
 refine t_istore (pc' := 87) (L' := #[vi p0, vi p1, vi p2, vi p3, vi 1, vi ((own_let p1)), vi ((own_ch p2)), .unset, .unset, .unset, .unset]) X13.here hx hby at_85 rfl rfl ?_
 refine t_iloadN 88 X13.here hx hby at_87 rfl rfl ?_
 refine X13.ldcInt hx hown (mvT hZ (w0 hw)) (g := (mkF m 88 #[vi p0, vi p1, vi p2, vi p3, vi 1, vi ((own_let p1)), vi ((own_ch p2)), .unset, .unset, .unset, .unset] [(.int p3)])) rfl (hb hby at_88) _ ?_
 refine t_iand 91 (r := (own_ch p3)) X13.here hx hby at_90 (Eq.refl (own_ch p3)) rfl ?_
 refine t_i2c 92 (r := (own_ch p3)) X13.here hx hby at_91 (own_c2d (own_m16a p3) (own_m16b p3)) rfl ?_
 refine t_istore (pc' := 94) (L' := #[vi p0, vi p1, vi p2, vi p3, vi 1, vi ((own_let p1)), vi ((own_ch p2)), vi ((own_ch p3)), .unset, .unset, .unset]) X13.here hx hby at_92 rfl rfl ?_
 refine t_iload 96 X13.here hx hby at_94 rfl rfl ?_
 refine t_iload 98 X13.here hx hby at_96 rfl rfl ?_
 refine t_iload 100 X13.here hx hby at_98 rfl rfl ?_
 refine t_iload 102 X13.here hx hby at_100 rfl rfl ?_
 refine st15 _ ?_
 refine t_astore (pc' := 107) (L' := #[vi p0, vi p1, vi p2, vi p3, vi 1, vi ((own_let p1)), vi ((own_ch p2)), vi ((own_ch p3)), vr b5_5_15, .unset, .unset]) X15.here hx hby at_105 rfl rfl rfl ?_
 refine t_aload 109 X15.here hx hby at_107 rfl rfl rfl ?_
 refine st19 _ ?_
 refine t_astore (pc' := 114) (L' := #[vi p0, vi p1, vi p2, vi p3, vi 1, vi ((own_let p1)), vi ((own_ch p2)), vi ((own_ch p3)), vr b5_5_15, vr st_EMPTY, .unset]) X19.here hx hby at_112 rfl rfl rfl ?_
 refine t_iload 116 X19.here hx hby at_114 rfl rfl ?_
 refine t_iload 118 X19.here hx hby at_116 rfl rfl ?_
 refine st21 _ ?_
 refine t_astore (pc' := 123) (L' := #[vi p0, vi p1, vi p2, vi p3, vi 1, vi ((own_let p1)), vi ((own_ch p2)), vi ((own_ch p3)), vr b5_5_15, vr st_EMPTY, .val .null]) X21.here hx hby at_121 rfl rfl rfl ?_
 refine t_aload 125 X21.here hx hby at_123 rfl rfl rfl ?_
 refine t_ifnonnullNo 128 X21.here hx hby at_125 rfl ?_
 refine t_aload 130 X21.here hx hby at_128 rfl rfl rfl ?_
 refine st22 _ ?_
 refine t_ifNo 136 X22.here hx hby at_133 (by decide) rfl ?_
 refine t_iconst 137 (r := 1) X22.here hx hby at_136 (by decide) rfl ?_
 refine t_goto (pc := 137) 141 X22.here hx hby at_137 (by decide) (by decide) ?_
 exact retN X22 hx (t := .boolean) hret (by simp) (hb hby at_141) hr
theorem law_b2_b (l : Launch) (Z : State) (a0 : Array Value) (hw : HW Z a0) (ws : List Jvm.Cond) (p0 p1 p2 p3 cs : Int32) (fm : Value) (st_EMPTY st_DAYS st_MONTHS st_YEARS : Addr) (h0 : Heap) (n0 : Nat) (Z0 : n0 ≤ h0.size) (hbb : (255 : Int32) < (own_ch p2)) (hcs : ¬ (cs = (0 : Int32))) (hln : (p0 &&& (3 : Int32)) = (2 : Int32)) (hbit : (((p0.toUInt32 >>> ((2 : Int32) &&& 31).toUInt32).toInt32) &&& (1 : Int32)) = (1 : Int32)) (sCS : SCS Z cs) (S__assertionsDisabled : Sa5 Z (.int 1)) (S_HI_BYTE_SHIFT : Sa6 Z z0) (S_LO_BYTE_SHIFT : Sa7 Z (.int 8)) (O0 : Old Z n0 h0) (S_EMPTY : Sa4 Z (.ref st_EMPTY)) (E_st_EMPTY : Ex1 Z h0 st_EMPTY) (F_st_EMPTY_value : Fd2 Z h0 st_EMPTY .null) :
    LawM l Z ws p0 p1 p2 p3 h0 n0 := by
 refine own_bodyH (k := 5) (n := 20) (y := x) (Q := fun v _ L => Q_law n0 v L) (own_EW hw) (plainFor_of_name pn_PaymentFrequencyUnitOfPinLaw855) (ef_law p0 p1 p2 p3) (by decide) (by decide) ?_
 intro p e s m below meth c s₁ hx hby hml hown hnm hret hZ e0 hS0 hk0 X0 hC0 hSF0
 have N0 := Fr.nil n0
 obtain ⟨T1, h1, k1, X1, e1, E1, A1, st1⟩ := newP (aty := .char) X0 hx hZ (w8 hw) e0 (g := (mkF m 22 #[vi p0, vi p1, vi p2, vi p3, vi 2, vi ((own_ch p1)), .unset, .unset, .unset, .unset, .unset] [(.int 8)])) rfl (hb hby at_22) rfl (by decide) (cap := 8) (by decide) (by decide) (by decide) (by decide)
 obtain ⟨b1, g1⟩ : ∃ z, z = h0.size := ⟨_, rfl⟩
 rw [← g1] at A1 st1
 have ge_b1 : h0.size ≤ b1 := Nat.le_of_eq g1.symm
 have K1 := KL.ofE E1
 have Ck0 := own_chK K1 na0 (CHr.refl hC0).1
 have Ah1 := (CHr.refl hC0).trans Ck0.1
 have V1 : Arv Z h1 b1 k1 .char 8 [z0, z0, z0, z0, z0, z0, z0, z0] z0 := (Arv.new A1 (by decide)).pad (pad_rep [] z0 8)
 obtain ⟨T2, h2, X2, e2, W2, V2, st2⟩ := own_astC X1 hx hZ e1 V1 (j := 0) (by decide) 0 rfl (Nat.le_of_ble_eq_true rfl) (g := (mkF m 28 #[vi p0, vi p1, vi p2, vi p3, vi 2, vi ((own_ch p1)), .unset, .unset, .unset, .unset, .unset] [(.int 68), z0, (.ref b1), (.ref b1)])) rfl rfl (hb hby at_28)
 rw [show (nar .char 68) = (68 : Int32) from by decide] at V2
 have gg3 := Nat.le_trans Z0 ge_b1
 have K2 := KL.ofW W2
 have Ck1 := own_chK K2 (naF (Ck0.2 _ (Safe.new ge_b1)) na0) Ah1.1
 have Ah2 := Ah1.trans Ck1.1
 replace V2 : Arv Z h2 b1 k1 .char 8 [(.int 68), z0, z0, z0, z0, z0, z0, z0] z0 := V2
 have N2 := Fr.snoc X2 N0 gg3
 obtain ⟨T4, h4, X4, e4, W4, V4, st4⟩ := own_astC X2 hx hZ e2 V2 (j := 1) (by decide) 1 rfl (Nat.le_of_ble_eq_true rfl) (g := (mkF m 33 #[vi p0, vi p1, vi p2, vi p3, vi 2, vi ((own_ch p1)), .unset, .unset, .unset, .unset, .unset] [(.int 100), (.int 1), (.ref b1), (.ref b1)])) rfl rfl (hb hby at_33)
 rw [show (nar .char 100) = (100 : Int32) from by decide] at V4
 have K4 := KL.ofW W4
 have sf5 := (Ck1.2 _ (Ck0.2 _ (Safe.new ge_b1)))
 have Ck2 := own_chK K4 (naF sf5 na0) Ah2.1
 have Ah3 := Ah2.trans Ck2.1
 replace V4 : Arv Z h4 b1 k1 .char 8 [(.int 68), (.int 100), z0, z0, z0, z0, z0, z0] z0 := V4
 have N4 := Fr.snoc X4 N2 gg3
 obtain ⟨T6, h6, X6, e6, W6, V6, st6⟩ := own_astC X4 hx hZ e4 V4 (j := 2) (by decide) 2 rfl (Nat.le_of_ble_eq_true rfl) (g := (mkF m 38 #[vi p0, vi p1, vi p2, vi p3, vi 2, vi ((own_ch p1)), .unset, .unset, .unset, .unset, .unset] [(.int 77), (.int 2), (.ref b1), (.ref b1)])) rfl rfl (hb hby at_38)
 rw [show (nar .char 77) = (77 : Int32) from by decide] at V6
 have K6 := KL.ofW W6
 have Ck3 := own_chK K6 (naF (Ck2.2 _ sf5) na0) Ah3.1
 have Ah4 := Ah3.trans Ck3.1
 replace V6 : Arv Z h6 b1 k1 .char 8 [(.int 68), (.int 100), (.int 77), z0, z0, z0, z0, z0] z0 := V6
 have N6 := Fr.snoc X6 N4 gg3
 obtain ⟨T7, h7, X7, e7, W7, V7, st7⟩ := own_astC X6 hx hZ e6 V6 (j := 3) (by decide) 3 rfl (Nat.le_of_ble_eq_true rfl) (g := (mkF m 43 #[vi p0, vi p1, vi p2, vi p3, vi 2, vi ((own_ch p1)), .unset, .unset, .unset, .unset, .unset] [(.int 109), (.int 3), (.ref b1), (.ref b1)])) rfl rfl (hb hby at_43)
 rw [show (nar .char 109) = (109 : Int32) from by decide] at V7
 have K7 := KL.ofW W7
 have sf8 := (Ck3.2 _ (Ck2.2 _ sf5))
 have Ck4 := own_chK K7 (naF sf8 na0) Ah4.1
 have Ah5 := Ah4.trans Ck4.1
 replace V7 : Arv Z h7 b1 k1 .char 8 [(.int 68), (.int 100), (.int 77), (.int 109), z0, z0, z0, z0] z0 := V7
 have N7 := Fr.snoc X7 N6 gg3
 obtain ⟨T9, h9, X9, e9, W9, V9, st9⟩ := own_astC X7 hx hZ e7 V7 (j := 4) (by decide) 4 rfl (Nat.le_of_ble_eq_true rfl) (g := (mkF m 48 #[vi p0, vi p1, vi p2, vi p3, vi 2, vi ((own_ch p1)), .unset, .unset, .unset, .unset, .unset] [(.int 89), (.int 4), (.ref b1), (.ref b1)])) rfl rfl (hb hby at_48)
 rw [show (nar .char 89) = (89 : Int32) from by decide] at V9
 have K9 := KL.ofW W9
 have Ck5 := own_chK K9 (naF (Ck4.2 _ sf8) na0) Ah5.1
 have Ah6 := Ah5.trans Ck5.1
 replace V9 : Arv Z h9 b1 k1 .char 8 [(.int 68), (.int 100), (.int 77), (.int 109), (.int 89), z0, z0, z0] z0 := V9
 have N9 := Fr.snoc X9 N7 gg3
 obtain ⟨T10, h10, X10, e10, W10, V10, st10⟩ := own_astC X9 hx hZ e9 V9 (j := 5) (by decide) 5 rfl (Nat.le_of_ble_eq_true rfl) (g := (mkF m 53 #[vi p0, vi p1, vi p2, vi p3, vi 2, vi ((own_ch p1)), .unset, .unset, .unset, .unset, .unset] [(.int 121), (.int 5), (.ref b1), (.ref b1)])) rfl rfl (hb hby at_53)
 rw [show (nar .char 121) = (121 : Int32) from by decide] at V10
 have K10 := KL.ofW W10
 have sf11 := (Ck5.2 _ (Ck4.2 _ sf8))
 have Ck6 := own_chK K10 (naF sf11 na0) Ah6.1
 have Ah7 := Ah6.trans Ck6.1
 replace V10 : Arv Z h10 b1 k1 .char 8 [(.int 68), (.int 100), (.int 77), (.int 109), (.int 89), (.int 121), z0, z0] z0 := V10
 have N10 := Fr.snoc X10 N9 gg3
 obtain ⟨T12, h12, X12, e12, W12, V12, st12⟩ := own_astC X10 hx hZ e10 V10 (j := 6) (by decide) 6 rfl (Nat.le_of_ble_eq_true rfl) (g := (mkF m 59 #[vi p0, vi p1, vi p2, vi p3, vi 2, vi ((own_ch p1)), .unset, .unset, .unset, .unset, .unset] [(.int 69), (.int 6), (.ref b1), (.ref b1)])) rfl rfl (hb hby at_59)
 rw [show (nar .char 69) = (69 : Int32) from by decide] at V12
 have K12 := KL.ofW W12
 have Ck7 := own_chK K12 (naF (Ck6.2 _ sf11) na0) Ah7.1
 have Ah8 := Ah7.trans Ck7.1
 replace V12 : Arv Z h12 b1 k1 .char 8 [(.int 68), (.int 100), (.int 77), (.int 109), (.int 89), (.int 121), (.int 69), z0] z0 := V12
 have N12 := Fr.snoc X12 N10 gg3
 obtain ⟨T13, h13, X13, e13, W13, V13, st13⟩ := own_astC X12 hx hZ e12 V12 (j := 7) (by decide) 7 rfl (Nat.le_of_ble_eq_true rfl) (g := (mkF m 65 #[vi p0, vi p1, vi p2, vi p3, vi 2, vi ((own_ch p1)), .unset, .unset, .unset, .unset, .unset] [(.int 78), (.int 7), (.ref b1), (.ref b1)])) rfl rfl (hb hby at_65)
 rw [show (nar .char 78) = (78 : Int32) from by decide] at V13
 have K13 := KL.ofW W13
 have sf14 := (Ck7.2 _ (Ck6.2 _ sf11))
 have Ck8 := own_chK K13 (naF sf14 na0) Ah8.1
 have Ah9 := Ah8.trans Ck8.1
 replace V13 : Arv Z h13 b1 k1 .char 8 [(.int 68), (.int 100), (.int 77), (.int 109), (.int 89), (.int 121), (.int 69), (.int 78)] z0 := V13
 have N13 := Fr.snoc X13 N12 gg3
 have f16 := (kOld K13 (kOld K12 (kOld K10 (kOld K9 (kOld K7 (kOld K6 (kOld K4 (kOld K2 (kOld K1 O0 na0) (naG gg3 na0)) (naG gg3 na0)) (naG gg3 na0)) (naG gg3 na0)) (naG gg3 na0)) (naG gg3 na0)) (naG gg3 na0)) (naG gg3 na0))
 have sz_0_2 := (Nat.le_trans K1.1 K2.1)
 have sz_0_3 := (Nat.le_trans sz_0_2 K4.1)
 have sz_0_4 := (Nat.le_trans sz_0_3 K6.1)
 have sz_0_5 := (Nat.le_trans sz_0_4 K7.1)
 have sz_0_6 := (Nat.le_trans sz_0_5 K9.1)
 have sz_0_7 := (Nat.le_trans sz_0_6 K10.1)
 have sz_0_8 := (Nat.le_trans sz_0_7 K12.1)
 have sz_0_9 := (Nat.le_trans sz_0_8 K13.1)
 obtain ⟨_, T15, L15, X15, hQ15, st15⟩ := own_static X13 hx hZ hown (w1 hw) (w2 hw) (w3 hw) (w4 hw) (by decide) (r71_make l Z a0 hw [] (own_let p1) (own_ch p2) (own_ch p3) cs h13 n0 (Nat.le_trans Z0 sz_0_9) (own_leta p1) (own_letc p1) (own_m16a p2) (own_m16b p2) sCS S__assertionsDisabled S_HI_BYTE_SHIFT S_LO_BYTE_SHIFT f16 hcs (own_letd p1) hbb) e13 (W := 0) (by decide) (g := (mkF m 102 #[vi p0, vi p1, vi p2, vi p3, vi 2, vi ((own_let p1)), vi ((own_ch p2)), vi ((own_ch p3)), .unset, .unset, .unset] [(.int (own_ch p3)), (.int (own_ch p2)), (.int (own_let p1)), (.int 2)])) rfl hml.symm (argsL := [(.int 2), (.int (own_let p1)), (.int (own_ch p2)), (.int (own_ch p3))]) (rest := []) (lenOf pd_11 rfl) rfl rfl (own_wr rfl rfl) (hb hby at_102)
 obtain ⟨b4_15, b2_1_8_6_4_10_15, k2_1_8_6_4_10_15, rfl, N15q, K15, Q15_0, Q15_1, Q15_2, Q15_3, Q15_4, Q15_5, Q15_6⟩ := hQ15
 have N15 := Fr.app N13 N15q
 have Ck9 := own_chK K15 na0 Ah9.1
 have Ah10 := Ah9.trans Ck9.1
 have f20 := (kOld K15 f16 na0)
 have sz_0_10 := (Nat.le_trans sz_0_9 K15.1)
 obtain ⟨_, T19, L19, X19, hQ19, st19⟩ := own_static X15 hx hZ hown (w27 hw) (w28 hw) (w29 hw) (w30 hw) (by decide) (r52_unitOf l Z a0 hw [] b4_15 b2_1_8_6_4_10_15 ((own_let p1).toInt8.toInt32) (((own_let p1) >>> ((8 : Int32) &&& 31)).toInt8.toInt32) ((own_ch p2).toInt8.toInt32) (((own_ch p2) >>> ((8 : Int32) &&& 31)).toInt8.toInt32) k2_1_8_6_4_10_15 cs st_EMPTY T15.heap n0 (Nat.le_trans Z0 sz_0_10) Q15_3 Q15_4 Q15_6 sCS Q15_5 f20 hcs S_EMPTY) rfl (W := 0) (by decide) (g := (mkF m 109 #[vi p0, vi p1, vi p2, vi p3, vi 2, vi ((own_let p1)), vi ((own_ch p2)), vi ((own_ch p3)), vr b4_15, .unset, .unset] [(.ref b4_15)])) rfl hml.symm (argsL := [(.ref b4_15)]) (rest := []) (lenOf pd_12 rfl) rfl rfl (own_wr rfl rfl) (hb hby at_109)
 obtain ⟨rfl, N19q, e19⟩ := hQ19
 have N19 := Fr.app N15 N19q
 obtain ⟨_, T21, L21, X21, hQ21, st21⟩ := own_static X19 hx hZ hown (w47 hw) (w48 hw) (w3 hw) (w49 hw) (by decide) (r54_expected l Z a0 hw [] (own_let p1) T15.heap n0 (Nat.le_trans Z0 sz_0_10)) e19 (W := 0) (by decide) (g := (mkF m 118 #[vi p0, vi p1, vi p2, vi p3, vi 2, vi ((own_let p1)), vi ((own_ch p2)), vi ((own_ch p3)), vr b4_15, vr st_EMPTY, .unset] [(.int (own_let p1)), (.int 2)])) rfl hml.symm (argsL := [(.int 2), (.int (own_let p1))]) (rest := []) (lenOf pd_13 rfl) rfl rfl (own_wr rfl rfl) (hb hby at_118)
 obtain ⟨rfl, N21q, e21⟩ := hQ21
 have N21 := Fr.app N19 N21q
 have lt_st_EMPTY : st_EMPTY < h0.size := Exa.lt E_st_EMPTY
 have ne23 := lt_ne lt_st_EMPTY ge_b1
 have f24 := (kFld K15 (kFld K13 (kFld K12 (kFld K10 (kFld K9 (kFld K7 (kFld K6 (kFld K4 (kFld K2 (kFld K1 F_st_EMPTY_value nw0) (nwL ne23 nw0)) (nwL ne23 nw0)) (nwL ne23 nw0)) (nwL ne23 nw0)) (nwL ne23 nw0)) (nwL ne23 nw0)) (nwL ne23 nw0)) (nwL ne23 nw0)) nw0)
 have f25 := (kExa K15 (kExa K13 (kExa K12 (kExa K10 (kExa K9 (kExa K7 (kExa K6 (kExa K4 (kExa K2 (kExa K1 E_st_EMPTY))))))))))
 obtain ⟨_, T22, L22, X22, hQ22, st22⟩ := own_virtual X21 hx hZ hown (w50 hw) (w51 hw) (nfS hZ (w53 hw)) (w53 hw) (w52 hw) (w44 hw) (w54 hw) (by decide) (r15_isPresent l Z a0 hw [] st_EMPTY T15.heap n0 (Nat.le_trans Z0 sz_0_10) f24) e21 f25 (W := 0) (by decide) (g := (mkF m 130 #[vi p0, vi p1, vi p2, vi p3, vi 2, vi ((own_let p1)), vi ((own_ch p2)), vi ((own_ch p3)), vr b4_15, vr st_EMPTY, .val .null] [(.ref st_EMPTY)])) rfl hml.symm (argsL := []) (rest := []) (lenOf pd_3 rfl) rfl rfl (own_wr rfl rfl) (hb hby at_130)
 obtain ⟨rfl, N22q, e22⟩ := hQ22
 have N22 := Fr.app N21 N22q
 refine ⟨T22, _, some (.int 1), _, _, X22, hS0, (by rw [e22]; exact (Nat.le_trans hk0 sz_0_10)), (fun h => by cases h <;> rfl), ?_, (by rw [e22]; exact Ah10), hZ, fun fs hr => ?_⟩
 · show Q_law n0 _ _
   exact ⟨rfl, N22⟩
 refine t_iloadN 1 X0.here hx hby at_0 rfl rfl ?_
 refine t_iconst 2 (r := 3) X0.here hx hby at_1 (by decide) rfl ?_
 refine t_iand 3 (r := 2) X0.here hx hby at_2 hln rfl ?_
 refine t_istore (pc' := 5) (L' := #[vi p0, vi p1, vi p2, vi p3, vi 2, .unset, .unset, .unset, .unset, .unset, .unset]) X0.here hx hby at_3 rfl rfl ?_
 refine t_iloadN 6 X0.here hx hby at_5 rfl rfl ?_
 refine X0.ldcInt hx hown (mvT hZ (w0 hw)) (g := (mkF m 6 #[vi p0, vi p1, vi p2, vi p3, vi 2, .unset, .unset, .unset, .unset, .unset, .unset] [(.int p1)])) rfl (hb hby at_6) _ ?_
 refine t_iand 9 (r := (own_ch p1)) X0.here hx hby at_8 (Eq.refl (own_ch p1)) rfl ?_
 refine t_i2c 10 (r := (own_ch p1)) X0.here hx hby at_9 (own_c2d (own_m16a p1) (own_m16b p1)) rfl ?_
 refine t_istore (pc' := 12) (L' := #[vi p0, vi p1, vi p2, vi p3, vi 2, vi ((own_ch p1)), .unset, .unset, .unset, .unset, .unset]) X0.here hx hby at_10 rfl rfl ?_
 refine t_iloadN 13 X0.here hx hby at_12 rfl rfl ?_
 refine t_iconst 14 (r := 2) X0.here hx hby at_13 (by decide) rfl ?_
 refine t_iushr 15 X0.here hx hby at_14 rfl rfl ?_
 refine t_iconst 16 (r := 1) X0.here hx hby at_15 (by decide) rfl ?_
 refine t_iand 17 (r := 1) X0.here hx hby at_16 hbit rfl ?_
 refine t_ifNo 20 X0.here hx hby at_17 (by decide) rfl ?_
 refine t_bipush 22 (r := 8) X0.here hx hby at_20 (by decide) rfl ?_
 refine st1 _ ?_
 refine t_dup 25 X1.here hx hby at_24 rfl rfl ?_
 refine t_iconst 26 (r := 0) X1.here hx hby at_25 (by decide) rfl ?_
 refine t_bipush 28 (r := 68) X1.here hx hby at_26 (by decide) rfl ?_
 refine st2 _ ?_
 refine t_dup 30 X2.here hx hby at_29 rfl rfl ?_
 refine t_iconst 31 (r := 1) X2.here hx hby at_30 (by decide) rfl ?_
 refine t_bipush 33 (r := 100) X2.here hx hby at_31 (by decide) rfl ?_
 refine st4 _ ?_
 refine t_dup 35 X4.here hx hby at_34 rfl rfl ?_
 refine t_iconst 36 (r := 2) X4.here hx hby at_35 (by decide) rfl ?_
 refine t_bipush 38 (r := 77) X4.here hx hby at_36 (by decide) rfl ?_
 refine st6 _ ?_
 refine t_dup 40 X6.here hx hby at_39 rfl rfl ?_
 refine t_iconst 41 (r := 3) X6.here hx hby at_40 (by decide) rfl ?_
 refine t_bipush 43 (r := 109) X6.here hx hby at_41 (by decide) rfl ?_
 refine st7 _ ?_
 refine t_dup 45 X7.here hx hby at_44 rfl rfl ?_
 refine t_iconst 46 (r := 4) X7.here hx hby at_45 (by decide) rfl ?_
 refine t_bipush 48 (r := 89) X7.here hx hby at_46 (by decide) rfl ?_
 refine st9 _ ?_
 refine t_dup 50 X9.here hx hby at_49 rfl rfl ?_
 refine t_iconst 51 (r := 5) X9.here hx hby at_50 (by decide) rfl ?_
 refine t_bipush 53 (r := 121) X9.here hx hby at_51 (by decide) rfl ?_
 refine st10 _ ?_
 refine t_dup 55 X10.here hx hby at_54 rfl rfl ?_
 refine t_bipush 57 (r := 6) X10.here hx hby at_55 (by decide) rfl ?_
 refine t_bipush 59 (r := 69) X10.here hx hby at_57 (by decide) rfl ?_
 refine st12 _ ?_
 refine t_dup 61 X12.here hx hby at_60 rfl rfl ?_
 refine t_bipush 63 (r := 7) X12.here hx hby at_61 (by decide) rfl ?_
 refine t_bipush 65 (r := 78) X12.here hx hby at_63 (by decide) rfl ?_
 refine st13 _ ?_
 refine t_astore (pc' := 68) (L' := #[vi p0, vi p1, vi p2, vi p3, vi 2, vi ((own_ch p1)), vr b1, .unset, .unset, .unset, .unset]) X13.here hx hby at_66 rfl rfl rfl ?_
 refine t_aload 70 X13.here hx hby at_68 rfl rfl rfl ?_
 refine t_iloadN 71 X13.here hx hby at_70 rfl rfl ?_
 refine X13.ldcInt hx hown (mvT hZ (w57 hw)) (g := (mkF m 71 #[vi p0, vi p1, vi p2, vi p3, vi 2, vi ((own_ch p1)), vr b1, .unset, .unset, .unset, .unset] [(.int p1), (.ref b1)])) rfl (hb hby at_71) _ ?_
 refine t_iand 74 X13.here hx hby at_73 rfl rfl ?_
 refine t_bipush 76 (r := 8) X13.here hx hby at_74 (by decide) rfl ?_
 refine t_irem 77 X13.here hx hby at_76 (by decide) rfl rfl ?_
 refine own_aldC (pc' := 78) X13 hx hZ e13 V13 (j := ((p1 &&& (2147483647 : Int32)) - ((p1 &&& (2147483647 : Int32)) / (8 : Int32)) * (8 : Int32))) (v := (.int (own_let p1))) (own_letb p1) (own_letv p1) (hb hby at_77) rfl ?_
 refine t_istore (pc' := 80) (L' := #[vi p0, vi p1, vi p2, vi p3, vi 2, vi ((own_let p1)), vr b1, .unset, .unset, .unset, .unset]) X13.here hx hby at_78 rfl rfl ?_
 refine t_iloadN 81 X13.here hx hby at_80 rfl rfl ?_
 refine X13.ldcInt hx hown (mvT hZ (w0 hw)) (g := (mkF m 81 #[vi p0, vi p1, vi p2, vi p3, vi 2, vi ((own_let p1)), vr b1, .unset, .unset, .unset, .unset] [(.int p2)])) rfl (hb hby at_81) _ ?_
 refine t_iand 84 (r := (own_ch p2)) X13.here hx hby at_83 (Eq.refl (own_ch p2)) rfl ?_
 refine t_i2c 85 (r := (own_ch p2)) X13.here hx hby at_84 (own_c2d (own_m16a p2) (own_m16b p2)) rfl ?_
 refine t_istore (pc' := 87) (L' := #[vi p0, vi p1, vi p2, vi p3, vi 2, vi ((own_let p1)), vi ((own_ch p2)), .unset, .unset, .unset, .unset]) X13.here hx hby at_85 rfl rfl ?_
 refine t_iloadN 88 X13.here hx hby at_87 rfl rfl ?_
 refine X13.ldcInt hx hown (mvT hZ (w0 hw)) (g := (mkF m 88 #[vi p0, vi p1, vi p2, vi p3, vi 2, vi ((own_let p1)), vi ((own_ch p2)), .unset, .unset, .unset, .unset] [(.int p3)])) rfl (hb hby at_88) _ ?_
 refine t_iand 91 (r := (own_ch p3)) X13.here hx hby at_90 (Eq.refl (own_ch p3)) rfl ?_
 refine t_i2c 92 (r := (own_ch p3)) X13.here hx hby at_91 (own_c2d (own_m16a p3) (own_m16b p3)) rfl ?_
 refine t_istore (pc' := 94) (L' := #[vi p0, vi p1, vi p2, vi p3, vi 2, vi ((own_let p1)), vi ((own_ch p2)), vi ((own_ch p3)), .unset, .unset, .unset]) X13.here hx hby at_92 rfl rfl ?_
 refine t_iload 96 X13.here hx hby at_94 rfl rfl ?_
 refine t_iload 98 X13.here hx hby at_96 rfl rfl ?_
 refine t_iload 100 X13.here hx hby at_98 rfl rfl ?_
 refine t_iload 102 X13.here hx hby at_100 rfl rfl ?_
 refine st15 _ ?_
 refine t_astore (pc' := 107) (L' := #[vi p0, vi p1, vi p2, vi p3, vi 2, vi ((own_let p1)), vi ((own_ch p2)), vi ((own_ch p3)), vr b4_15, .unset, .unset]) X15.here hx hby at_105 rfl rfl rfl ?_
 refine t_aload 109 X15.here hx hby at_107 rfl rfl rfl ?_
 refine st19 _ ?_
 refine t_astore (pc' := 114) (L' := #[vi p0, vi p1, vi p2, vi p3, vi 2, vi ((own_let p1)), vi ((own_ch p2)), vi ((own_ch p3)), vr b4_15, vr st_EMPTY, .unset]) X19.here hx hby at_112 rfl rfl rfl ?_
 refine t_iload 116 X19.here hx hby at_114 rfl rfl ?_
 refine t_iload 118 X19.here hx hby at_116 rfl rfl ?_
 refine st21 _ ?_
 refine t_astore (pc' := 123) (L' := #[vi p0, vi p1, vi p2, vi p3, vi 2, vi ((own_let p1)), vi ((own_ch p2)), vi ((own_ch p3)), vr b4_15, vr st_EMPTY, .val .null]) X21.here hx hby at_121 rfl rfl rfl ?_
 refine t_aload 125 X21.here hx hby at_123 rfl rfl rfl ?_
 refine t_ifnonnullNo 128 X21.here hx hby at_125 rfl ?_
 refine t_aload 130 X21.here hx hby at_128 rfl rfl rfl ?_
 refine st22 _ ?_
 refine t_ifNo 136 X22.here hx hby at_133 (by decide) rfl ?_
 refine t_iconst 137 (r := 1) X22.here hx hby at_136 (by decide) rfl ?_
 refine t_goto (pc := 137) 141 X22.here hx hby at_137 (by decide) (by decide) ?_
 exact retN X22 hx (t := .boolean) hret (by simp) (hb hby at_141) hr
theorem law_b2_s (l : Launch) (Z : State) (a0 : Array Value) (hw : HW Z a0) (ws : List Jvm.Cond) (p0 p1 p2 p3 cs : Int32) (fm : Value) (st_EMPTY st_DAYS st_MONTHS st_YEARS : Addr) (h0 : Heap) (n0 : Nat) (Z0 : n0 ≤ h0.size) (hbb : ¬ ((255 : Int32) < (own_ch p2))) (hcs : ¬ (cs = (0 : Int32))) (hln : (p0 &&& (3 : Int32)) = (2 : Int32)) (hbit : (((p0.toUInt32 >>> ((2 : Int32) &&& 31).toUInt32).toInt32) &&& (1 : Int32)) = (1 : Int32)) (sCS : SCS Z cs) (O0 : Old Z n0 h0) (S_EMPTY : Sa4 Z (.ref st_EMPTY)) (E_st_EMPTY : Ex1 Z h0 st_EMPTY) (F_st_EMPTY_value : Fd2 Z h0 st_EMPTY .null) :
    LawM l Z ws p0 p1 p2 p3 h0 n0 := by
 refine own_bodyH (k := 4) (n := 16) (y := x) (Q := fun v _ L => Q_law n0 v L) (own_EW hw) (plainFor_of_name pn_PaymentFrequencyUnitOfPinLaw855) (ef_law p0 p1 p2 p3) (by decide) (by decide) ?_
 intro p e s m below meth c s₁ hx hby hml hown hnm hret hZ e0 hS0 hk0 X0 hC0 hSF0
 have N0 := Fr.nil n0
 obtain ⟨T1, h1, k1, X1, e1, E1, A1, st1⟩ := newP (aty := .char) X0 hx hZ (w8 hw) e0 (g := (mkF m 22 #[vi p0, vi p1, vi p2, vi p3, vi 2, vi ((own_ch p1)), .unset, .unset, .unset, .unset, .unset] [(.int 8)])) rfl (hb hby at_22) rfl (by decide) (cap := 8) (by decide) (by decide) (by decide) (by decide)
 obtain ⟨b1, g1⟩ : ∃ z, z = h0.size := ⟨_, rfl⟩
 rw [← g1] at A1 st1
 have ge_b1 : h0.size ≤ b1 := Nat.le_of_eq g1.symm
 have K1 := KL.ofE E1
 have Ck0 := own_chK K1 na0 (CHr.refl hC0).1
 have Ah1 := (CHr.refl hC0).trans Ck0.1
 have V1 : Arv Z h1 b1 k1 .char 8 [z0, z0, z0, z0, z0, z0, z0, z0] z0 := (Arv.new A1 (by decide)).pad (pad_rep [] z0 8)
 obtain ⟨T2, h2, X2, e2, W2, V2, st2⟩ := own_astC X1 hx hZ e1 V1 (j := 0) (by decide) 0 rfl (Nat.le_of_ble_eq_true rfl) (g := (mkF m 28 #[vi p0, vi p1, vi p2, vi p3, vi 2, vi ((own_ch p1)), .unset, .unset, .unset, .unset, .unset] [(.int 68), z0, (.ref b1), (.ref b1)])) rfl rfl (hb hby at_28)
 rw [show (nar .char 68) = (68 : Int32) from by decide] at V2
 have gg3 := Nat.le_trans Z0 ge_b1
 have K2 := KL.ofW W2
 have Ck1 := own_chK K2 (naF (Ck0.2 _ (Safe.new ge_b1)) na0) Ah1.1
 have Ah2 := Ah1.trans Ck1.1
 replace V2 : Arv Z h2 b1 k1 .char 8 [(.int 68), z0, z0, z0, z0, z0, z0, z0] z0 := V2
 have N2 := Fr.snoc X2 N0 gg3
 obtain ⟨T4, h4, X4, e4, W4, V4, st4⟩ := own_astC X2 hx hZ e2 V2 (j := 1) (by decide) 1 rfl (Nat.le_of_ble_eq_true rfl) (g := (mkF m 33 #[vi p0, vi p1, vi p2, vi p3, vi 2, vi ((own_ch p1)), .unset, .unset, .unset, .unset, .unset] [(.int 100), (.int 1), (.ref b1), (.ref b1)])) rfl rfl (hb hby at_33)
 rw [show (nar .char 100) = (100 : Int32) from by decide] at V4
 have K4 := KL.ofW W4
 have sf5 := (Ck1.2 _ (Ck0.2 _ (Safe.new ge_b1)))
 have Ck2 := own_chK K4 (naF sf5 na0) Ah2.1
 have Ah3 := Ah2.trans Ck2.1
 replace V4 : Arv Z h4 b1 k1 .char 8 [(.int 68), (.int 100), z0, z0, z0, z0, z0, z0] z0 := V4
 have N4 := Fr.snoc X4 N2 gg3
 obtain ⟨T6, h6, X6, e6, W6, V6, st6⟩ := own_astC X4 hx hZ e4 V4 (j := 2) (by decide) 2 rfl (Nat.le_of_ble_eq_true rfl) (g := (mkF m 38 #[vi p0, vi p1, vi p2, vi p3, vi 2, vi ((own_ch p1)), .unset, .unset, .unset, .unset, .unset] [(.int 77), (.int 2), (.ref b1), (.ref b1)])) rfl rfl (hb hby at_38)
 rw [show (nar .char 77) = (77 : Int32) from by decide] at V6
 have K6 := KL.ofW W6
 have Ck3 := own_chK K6 (naF (Ck2.2 _ sf5) na0) Ah3.1
 have Ah4 := Ah3.trans Ck3.1
 replace V6 : Arv Z h6 b1 k1 .char 8 [(.int 68), (.int 100), (.int 77), z0, z0, z0, z0, z0] z0 := V6
 have N6 := Fr.snoc X6 N4 gg3
 obtain ⟨T7, h7, X7, e7, W7, V7, st7⟩ := own_astC X6 hx hZ e6 V6 (j := 3) (by decide) 3 rfl (Nat.le_of_ble_eq_true rfl) (g := (mkF m 43 #[vi p0, vi p1, vi p2, vi p3, vi 2, vi ((own_ch p1)), .unset, .unset, .unset, .unset, .unset] [(.int 109), (.int 3), (.ref b1), (.ref b1)])) rfl rfl (hb hby at_43)
 rw [show (nar .char 109) = (109 : Int32) from by decide] at V7
 have K7 := KL.ofW W7
 have sf8 := (Ck3.2 _ (Ck2.2 _ sf5))
 have Ck4 := own_chK K7 (naF sf8 na0) Ah4.1
 have Ah5 := Ah4.trans Ck4.1
 replace V7 : Arv Z h7 b1 k1 .char 8 [(.int 68), (.int 100), (.int 77), (.int 109), z0, z0, z0, z0] z0 := V7
 have N7 := Fr.snoc X7 N6 gg3
 obtain ⟨T9, h9, X9, e9, W9, V9, st9⟩ := own_astC X7 hx hZ e7 V7 (j := 4) (by decide) 4 rfl (Nat.le_of_ble_eq_true rfl) (g := (mkF m 48 #[vi p0, vi p1, vi p2, vi p3, vi 2, vi ((own_ch p1)), .unset, .unset, .unset, .unset, .unset] [(.int 89), (.int 4), (.ref b1), (.ref b1)])) rfl rfl (hb hby at_48)
 rw [show (nar .char 89) = (89 : Int32) from by decide] at V9
 have K9 := KL.ofW W9
 have Ck5 := own_chK K9 (naF (Ck4.2 _ sf8) na0) Ah5.1
 have Ah6 := Ah5.trans Ck5.1
 replace V9 : Arv Z h9 b1 k1 .char 8 [(.int 68), (.int 100), (.int 77), (.int 109), (.int 89), z0, z0, z0] z0 := V9
 have N9 := Fr.snoc X9 N7 gg3
 obtain ⟨T10, h10, X10, e10, W10, V10, st10⟩ := own_astC X9 hx hZ e9 V9 (j := 5) (by decide) 5 rfl (Nat.le_of_ble_eq_true rfl) (g := (mkF m 53 #[vi p0, vi p1, vi p2, vi p3, vi 2, vi ((own_ch p1)), .unset, .unset, .unset, .unset, .unset] [(.int 121), (.int 5), (.ref b1), (.ref b1)])) rfl rfl (hb hby at_53)
 rw [show (nar .char 121) = (121 : Int32) from by decide] at V10
 have K10 := KL.ofW W10
 have sf11 := (Ck5.2 _ (Ck4.2 _ sf8))
 have Ck6 := own_chK K10 (naF sf11 na0) Ah6.1
 have Ah7 := Ah6.trans Ck6.1
 replace V10 : Arv Z h10 b1 k1 .char 8 [(.int 68), (.int 100), (.int 77), (.int 109), (.int 89), (.int 121), z0, z0] z0 := V10
 have N10 := Fr.snoc X10 N9 gg3
 obtain ⟨T12, h12, X12, e12, W12, V12, st12⟩ := own_astC X10 hx hZ e10 V10 (j := 6) (by decide) 6 rfl (Nat.le_of_ble_eq_true rfl) (g := (mkF m 59 #[vi p0, vi p1, vi p2, vi p3, vi 2, vi ((own_ch p1)), .unset, .unset, .unset, .unset, .unset] [(.int 69), (.int 6), (.ref b1), (.ref b1)])) rfl rfl (hb hby at_59)
 rw [show (nar .char 69) = (69 : Int32) from by decide] at V12
 have K12 := KL.ofW W12
 have Ck7 := own_chK K12 (naF (Ck6.2 _ sf11) na0) Ah7.1
 have Ah8 := Ah7.trans Ck7.1
 replace V12 : Arv Z h12 b1 k1 .char 8 [(.int 68), (.int 100), (.int 77), (.int 109), (.int 89), (.int 121), (.int 69), z0] z0 := V12
 have N12 := Fr.snoc X12 N10 gg3
 obtain ⟨T13, h13, X13, e13, W13, V13, st13⟩ := own_astC X12 hx hZ e12 V12 (j := 7) (by decide) 7 rfl (Nat.le_of_ble_eq_true rfl) (g := (mkF m 65 #[vi p0, vi p1, vi p2, vi p3, vi 2, vi ((own_ch p1)), .unset, .unset, .unset, .unset, .unset] [(.int 78), (.int 7), (.ref b1), (.ref b1)])) rfl rfl (hb hby at_65)
 rw [show (nar .char 78) = (78 : Int32) from by decide] at V13
 have K13 := KL.ofW W13
 have sf14 := (Ck7.2 _ (Ck6.2 _ sf11))
 have Ck8 := own_chK K13 (naF sf14 na0) Ah8.1
 have Ah9 := Ah8.trans Ck8.1
 replace V13 : Arv Z h13 b1 k1 .char 8 [(.int 68), (.int 100), (.int 77), (.int 109), (.int 89), (.int 121), (.int 69), (.int 78)] z0 := V13
 have N13 := Fr.snoc X13 N12 gg3
 have f16 := (kOld K13 (kOld K12 (kOld K10 (kOld K9 (kOld K7 (kOld K6 (kOld K4 (kOld K2 (kOld K1 O0 na0) (naG gg3 na0)) (naG gg3 na0)) (naG gg3 na0)) (naG gg3 na0)) (naG gg3 na0)) (naG gg3 na0)) (naG gg3 na0)) (naG gg3 na0))
 have sz_0_2 := (Nat.le_trans K1.1 K2.1)
 have sz_0_3 := (Nat.le_trans sz_0_2 K4.1)
 have sz_0_4 := (Nat.le_trans sz_0_3 K6.1)
 have sz_0_5 := (Nat.le_trans sz_0_4 K7.1)
 have sz_0_6 := (Nat.le_trans sz_0_5 K9.1)
 have sz_0_7 := (Nat.le_trans sz_0_6 K10.1)
 have sz_0_8 := (Nat.le_trans sz_0_7 K12.1)
 have sz_0_9 := (Nat.le_trans sz_0_8 K13.1)
 obtain ⟨_, T15, L15, X15, hQ15, st15⟩ := own_static X13 hx hZ hown (w1 hw) (w2 hw) (w3 hw) (w4 hw) (by decide) (r77_make l Z a0 hw [] (own_let p1) (own_ch p2) (own_ch p3) cs h13 n0 (Nat.le_trans Z0 sz_0_9) (own_leta p1) (own_letc p1) (own_m16a p2) (own_m16b p2) sCS f16 hcs (own_letd p1) hbb) e13 (W := 0) (by decide) (g := (mkF m 102 #[vi p0, vi p1, vi p2, vi p3, vi 2, vi ((own_let p1)), vi ((own_ch p2)), vi ((own_ch p3)), .unset, .unset, .unset] [(.int (own_ch p3)), (.int (own_ch p2)), (.int (own_let p1)), (.int 2)])) rfl hml.symm (argsL := [(.int 2), (.int (own_let p1)), (.int (own_ch p2)), (.int (own_ch p3))]) (rest := []) (lenOf pd_11 rfl) rfl rfl (own_wr rfl rfl) (hb hby at_102)
 obtain ⟨b4_15, b1_6_4_10_15, k1_6_4_10_15, rfl, N15q, K15, Q15_0, Q15_1, Q15_2, Q15_3, Q15_4, Q15_5, Q15_6⟩ := hQ15
 have N15 := Fr.app N13 N15q
 have Ck9 := own_chK K15 na0 Ah9.1
 have Ah10 := Ah9.trans Ck9.1
 have f20 := (kOld K15 f16 na0)
 have sz_0_10 := (Nat.le_trans sz_0_9 K15.1)
 obtain ⟨_, T19, L19, X19, hQ19, st19⟩ := own_static X15 hx hZ hown (w27 hw) (w28 hw) (w29 hw) (w30 hw) (by decide) (r83_unitOf l Z a0 hw [] b4_15 b1_6_4_10_15 ((own_let p1).toInt8.toInt32) ((own_ch p2).toInt8.toInt32) k1_6_4_10_15 cs st_EMPTY T15.heap n0 (Nat.le_trans Z0 sz_0_10) Q15_3 Q15_4 Q15_6 sCS Q15_5 f20 hcs S_EMPTY) rfl (W := 0) (by decide) (g := (mkF m 109 #[vi p0, vi p1, vi p2, vi p3, vi 2, vi ((own_let p1)), vi ((own_ch p2)), vi ((own_ch p3)), vr b4_15, .unset, .unset] [(.ref b4_15)])) rfl hml.symm (argsL := [(.ref b4_15)]) (rest := []) (lenOf pd_12 rfl) rfl rfl (own_wr rfl rfl) (hb hby at_109)
 obtain ⟨rfl, N19q, e19⟩ := hQ19
 have N19 := Fr.app N15 N19q
 obtain ⟨_, T21, L21, X21, hQ21, st21⟩ := own_static X19 hx hZ hown (w47 hw) (w48 hw) (w3 hw) (w49 hw) (by decide) (r54_expected l Z a0 hw [] (own_let p1) T15.heap n0 (Nat.le_trans Z0 sz_0_10)) e19 (W := 0) (by decide) (g := (mkF m 118 #[vi p0, vi p1, vi p2, vi p3, vi 2, vi ((own_let p1)), vi ((own_ch p2)), vi ((own_ch p3)), vr b4_15, vr st_EMPTY, .unset] [(.int (own_let p1)), (.int 2)])) rfl hml.symm (argsL := [(.int 2), (.int (own_let p1))]) (rest := []) (lenOf pd_13 rfl) rfl rfl (own_wr rfl rfl) (hb hby at_118)
 obtain ⟨rfl, N21q, e21⟩ := hQ21
 have N21 := Fr.app N19 N21q
 have lt_st_EMPTY : st_EMPTY < h0.size := Exa.lt E_st_EMPTY
 have ne23 := lt_ne lt_st_EMPTY ge_b1
 have f24 := (kFld K15 (kFld K13 (kFld K12 (kFld K10 (kFld K9 (kFld K7 (kFld K6 (kFld K4 (kFld K2 (kFld K1 F_st_EMPTY_value nw0) (nwL ne23 nw0)) (nwL ne23 nw0)) (nwL ne23 nw0)) (nwL ne23 nw0)) (nwL ne23 nw0)) (nwL ne23 nw0)) (nwL ne23 nw0)) (nwL ne23 nw0)) nw0)
 have f25 := (kExa K15 (kExa K13 (kExa K12 (kExa K10 (kExa K9 (kExa K7 (kExa K6 (kExa K4 (kExa K2 (kExa K1 E_st_EMPTY))))))))))
 obtain ⟨_, T22, L22, X22, hQ22, st22⟩ := own_virtual X21 hx hZ hown (w50 hw) (w51 hw) (nfS hZ (w53 hw)) (w53 hw) (w52 hw) (w44 hw) (w54 hw) (by decide) (r15_isPresent l Z a0 hw [] st_EMPTY T15.heap n0 (Nat.le_trans Z0 sz_0_10) f24) e21 f25 (W := 0) (by decide) (g := (mkF m 130 #[vi p0, vi p1, vi p2, vi p3, vi 2, vi ((own_let p1)), vi ((own_ch p2)), vi ((own_ch p3)), vr b4_15, vr st_EMPTY, .val .null] [(.ref st_EMPTY)])) rfl hml.symm (argsL := []) (rest := []) (lenOf pd_3 rfl) rfl rfl (own_wr rfl rfl) (hb hby at_130)
 obtain ⟨rfl, N22q, e22⟩ := hQ22
 have N22 := Fr.app N21 N22q
 refine ⟨T22, _, some (.int 1), _, _, X22, hS0, (by rw [e22]; exact (Nat.le_trans hk0 sz_0_10)), (fun h => by cases h <;> rfl), ?_, (by rw [e22]; exact Ah10), hZ, fun fs hr => ?_⟩
 · show Q_law n0 _ _
   exact ⟨rfl, N22⟩
 refine t_iloadN 1 X0.here hx hby at_0 rfl rfl ?_
 refine t_iconst 2 (r := 3) X0.here hx hby at_1 (by decide) rfl ?_
 refine t_iand 3 (r := 2) X0.here hx hby at_2 hln rfl ?_
 refine t_istore (pc' := 5) (L' := #[vi p0, vi p1, vi p2, vi p3, vi 2, .unset, .unset, .unset, .unset, .unset, .unset]) X0.here hx hby at_3 rfl rfl ?_
 refine t_iloadN 6 X0.here hx hby at_5 rfl rfl ?_
 refine X0.ldcInt hx hown (mvT hZ (w0 hw)) (g := (mkF m 6 #[vi p0, vi p1, vi p2, vi p3, vi 2, .unset, .unset, .unset, .unset, .unset, .unset] [(.int p1)])) rfl (hb hby at_6) _ ?_
 refine t_iand 9 (r := (own_ch p1)) X0.here hx hby at_8 (Eq.refl (own_ch p1)) rfl ?_
 refine t_i2c 10 (r := (own_ch p1)) X0.here hx hby at_9 (own_c2d (own_m16a p1) (own_m16b p1)) rfl ?_
 refine t_istore (pc' := 12) (L' := #[vi p0, vi p1, vi p2, vi p3, vi 2, vi ((own_ch p1)), .unset, .unset, .unset, .unset, .unset]) X0.here hx hby at_10 rfl rfl ?_
 refine t_iloadN 13 X0.here hx hby at_12 rfl rfl ?_
 refine t_iconst 14 (r := 2) X0.here hx hby at_13 (by decide) rfl ?_
 refine t_iushr 15 X0.here hx hby at_14 rfl rfl ?_
 refine t_iconst 16 (r := 1) X0.here hx hby at_15 (by decide) rfl ?_
 refine t_iand 17 (r := 1) X0.here hx hby at_16 hbit rfl ?_
 refine t_ifNo 20 X0.here hx hby at_17 (by decide) rfl ?_
 refine t_bipush 22 (r := 8) X0.here hx hby at_20 (by decide) rfl ?_
 refine st1 _ ?_
 refine t_dup 25 X1.here hx hby at_24 rfl rfl ?_
 refine t_iconst 26 (r := 0) X1.here hx hby at_25 (by decide) rfl ?_
 refine t_bipush 28 (r := 68) X1.here hx hby at_26 (by decide) rfl ?_
 refine st2 _ ?_
 refine t_dup 30 X2.here hx hby at_29 rfl rfl ?_
 refine t_iconst 31 (r := 1) X2.here hx hby at_30 (by decide) rfl ?_
 refine t_bipush 33 (r := 100) X2.here hx hby at_31 (by decide) rfl ?_
 refine st4 _ ?_
 refine t_dup 35 X4.here hx hby at_34 rfl rfl ?_
 refine t_iconst 36 (r := 2) X4.here hx hby at_35 (by decide) rfl ?_
 refine t_bipush 38 (r := 77) X4.here hx hby at_36 (by decide) rfl ?_
 refine st6 _ ?_
 refine t_dup 40 X6.here hx hby at_39 rfl rfl ?_
 refine t_iconst 41 (r := 3) X6.here hx hby at_40 (by decide) rfl ?_
 refine t_bipush 43 (r := 109) X6.here hx hby at_41 (by decide) rfl ?_
 refine st7 _ ?_
 refine t_dup 45 X7.here hx hby at_44 rfl rfl ?_
 refine t_iconst 46 (r := 4) X7.here hx hby at_45 (by decide) rfl ?_
 refine t_bipush 48 (r := 89) X7.here hx hby at_46 (by decide) rfl ?_
 refine st9 _ ?_
 refine t_dup 50 X9.here hx hby at_49 rfl rfl ?_
 refine t_iconst 51 (r := 5) X9.here hx hby at_50 (by decide) rfl ?_
 refine t_bipush 53 (r := 121) X9.here hx hby at_51 (by decide) rfl ?_
 refine st10 _ ?_
 refine t_dup 55 X10.here hx hby at_54 rfl rfl ?_
 refine t_bipush 57 (r := 6) X10.here hx hby at_55 (by decide) rfl ?_
 refine t_bipush 59 (r := 69) X10.here hx hby at_57 (by decide) rfl ?_
 refine st12 _ ?_
 refine t_dup 61 X12.here hx hby at_60 rfl rfl ?_
 refine t_bipush 63 (r := 7) X12.here hx hby at_61 (by decide) rfl ?_
 refine t_bipush 65 (r := 78) X12.here hx hby at_63 (by decide) rfl ?_
 refine st13 _ ?_
 refine t_astore (pc' := 68) (L' := #[vi p0, vi p1, vi p2, vi p3, vi 2, vi ((own_ch p1)), vr b1, .unset, .unset, .unset, .unset]) X13.here hx hby at_66 rfl rfl rfl ?_
 refine t_aload 70 X13.here hx hby at_68 rfl rfl rfl ?_
 refine t_iloadN 71 X13.here hx hby at_70 rfl rfl ?_
 refine X13.ldcInt hx hown (mvT hZ (w57 hw)) (g := (mkF m 71 #[vi p0, vi p1, vi p2, vi p3, vi 2, vi ((own_ch p1)), vr b1, .unset, .unset, .unset, .unset] [(.int p1), (.ref b1)])) rfl (hb hby at_71) _ ?_
 refine t_iand 74 X13.here hx hby at_73 rfl rfl ?_
 refine t_bipush 76 (r := 8) X13.here hx hby at_74 (by decide) rfl ?_
 refine t_irem 77 X13.here hx hby at_76 (by decide) rfl rfl ?_
 refine own_aldC (pc' := 78) X13 hx hZ e13 V13 (j := ((p1 &&& (2147483647 : Int32)) - ((p1 &&& (2147483647 : Int32)) / (8 : Int32)) * (8 : Int32))) (v := (.int (own_let p1))) (own_letb p1) (own_letv p1) (hb hby at_77) rfl ?_
 refine t_istore (pc' := 80) (L' := #[vi p0, vi p1, vi p2, vi p3, vi 2, vi ((own_let p1)), vr b1, .unset, .unset, .unset, .unset]) X13.here hx hby at_78 rfl rfl ?_
 refine t_iloadN 81 X13.here hx hby at_80 rfl rfl ?_
 refine X13.ldcInt hx hown (mvT hZ (w0 hw)) (g := (mkF m 81 #[vi p0, vi p1, vi p2, vi p3, vi 2, vi ((own_let p1)), vr b1, .unset, .unset, .unset, .unset] [(.int p2)])) rfl (hb hby at_81) _ ?_
 refine t_iand 84 (r := (own_ch p2)) X13.here hx hby at_83 (Eq.refl (own_ch p2)) rfl ?_
 refine t_i2c 85 (r := (own_ch p2)) X13.here hx hby at_84 (own_c2d (own_m16a p2) (own_m16b p2)) rfl ?_
 refine t_istore (pc' := 87) (L' := #[vi p0, vi p1, vi p2, vi p3, vi 2, vi ((own_let p1)), vi ((own_ch p2)), .unset, .unset, .unset, .unset]) X13.here hx hby at_85 rfl rfl ?_
 refine t_iloadN 88 X13.here hx hby at_87 rfl rfl ?_
 refine X13.ldcInt hx hown (mvT hZ (w0 hw)) (g := (mkF m 88 #[vi p0, vi p1, vi p2, vi p3, vi 2, vi ((own_let p1)), vi ((own_ch p2)), .unset, .unset, .unset, .unset] [(.int p3)])) rfl (hb hby at_88) _ ?_
 refine t_iand 91 (r := (own_ch p3)) X13.here hx hby at_90 (Eq.refl (own_ch p3)) rfl ?_
 refine t_i2c 92 (r := (own_ch p3)) X13.here hx hby at_91 (own_c2d (own_m16a p3) (own_m16b p3)) rfl ?_
 refine t_istore (pc' := 94) (L' := #[vi p0, vi p1, vi p2, vi p3, vi 2, vi ((own_let p1)), vi ((own_ch p2)), vi ((own_ch p3)), .unset, .unset, .unset]) X13.here hx hby at_92 rfl rfl ?_
 refine t_iload 96 X13.here hx hby at_94 rfl rfl ?_
 refine t_iload 98 X13.here hx hby at_96 rfl rfl ?_
 refine t_iload 100 X13.here hx hby at_98 rfl rfl ?_
 refine t_iload 102 X13.here hx hby at_100 rfl rfl ?_
 refine st15 _ ?_
 refine t_astore (pc' := 107) (L' := #[vi p0, vi p1, vi p2, vi p3, vi 2, vi ((own_let p1)), vi ((own_ch p2)), vi ((own_ch p3)), vr b4_15, .unset, .unset]) X15.here hx hby at_105 rfl rfl rfl ?_
 refine t_aload 109 X15.here hx hby at_107 rfl rfl rfl ?_
 refine st19 _ ?_
 refine t_astore (pc' := 114) (L' := #[vi p0, vi p1, vi p2, vi p3, vi 2, vi ((own_let p1)), vi ((own_ch p2)), vi ((own_ch p3)), vr b4_15, vr st_EMPTY, .unset]) X19.here hx hby at_112 rfl rfl rfl ?_
 refine t_iload 116 X19.here hx hby at_114 rfl rfl ?_
 refine t_iload 118 X19.here hx hby at_116 rfl rfl ?_
 refine st21 _ ?_
 refine t_astore (pc' := 123) (L' := #[vi p0, vi p1, vi p2, vi p3, vi 2, vi ((own_let p1)), vi ((own_ch p2)), vi ((own_ch p3)), vr b4_15, vr st_EMPTY, .val .null]) X21.here hx hby at_121 rfl rfl rfl ?_
 refine t_aload 125 X21.here hx hby at_123 rfl rfl rfl ?_
 refine t_ifnonnullNo 128 X21.here hx hby at_125 rfl ?_
 refine t_aload 130 X21.here hx hby at_128 rfl rfl rfl ?_
 refine st22 _ ?_
 refine t_ifNo 136 X22.here hx hby at_133 (by decide) rfl ?_
 refine t_iconst 137 (r := 1) X22.here hx hby at_136 (by decide) rfl ?_
 refine t_goto (pc := 137) 141 X22.here hx hby at_137 (by decide) (by decide) ?_
 exact retN X22 hx (t := .boolean) hret (by simp) (hb hby at_141) hr
theorem law_b3_b (l : Launch) (Z : State) (a0 : Array Value) (hw : HW Z a0) (ws : List Jvm.Cond) (p0 p1 p2 p3 cs : Int32) (fm : Value) (st_EMPTY st_DAYS st_MONTHS st_YEARS : Addr) (h0 : Heap) (n0 : Nat) (Z0 : n0 ≤ h0.size) (hbb : (255 : Int32) < (own_ch p2)) (hcs : ¬ (cs = (0 : Int32))) (hln : (p0 &&& (3 : Int32)) = (3 : Int32)) (hbit : (((p0.toUInt32 >>> ((2 : Int32) &&& 31).toUInt32).toInt32) &&& (1 : Int32)) = (1 : Int32)) (sCS : SCS Z cs) (S__assertionsDisabled : Sa5 Z (.int 1)) (S_HI_BYTE_SHIFT : Sa6 Z z0) (S_LO_BYTE_SHIFT : Sa7 Z (.int 8)) (O0 : Old Z n0 h0) (S_EMPTY : Sa4 Z (.ref st_EMPTY)) (E_st_EMPTY : Ex1 Z h0 st_EMPTY) (F_st_EMPTY_value : Fd2 Z h0 st_EMPTY .null) :
    LawM l Z ws p0 p1 p2 p3 h0 n0 := by
 refine own_bodyH (k := 5) (n := 24) (y := x) (Q := fun v _ L => Q_law n0 v L) (own_EW hw) (plainFor_of_name pn_PaymentFrequencyUnitOfPinLaw855) (ef_law p0 p1 p2 p3) (by decide) (by decide) ?_
 intro p e s m below meth c s₁ hx hby hml hown hnm hret hZ e0 hS0 hk0 X0 hC0 hSF0
 have N0 := Fr.nil n0
 obtain ⟨T1, h1, k1, X1, e1, E1, A1, st1⟩ := newP (aty := .char) X0 hx hZ (w8 hw) e0 (g := (mkF m 22 #[vi p0, vi p1, vi p2, vi p3, vi 3, vi ((own_ch p1)), .unset, .unset, .unset, .unset, .unset] [(.int 8)])) rfl (hb hby at_22) rfl (by decide) (cap := 8) (by decide) (by decide) (by decide) (by decide)
 obtain ⟨b1, g1⟩ : ∃ z, z = h0.size := ⟨_, rfl⟩
 rw [← g1] at A1 st1
 have ge_b1 : h0.size ≤ b1 := Nat.le_of_eq g1.symm
 have K1 := KL.ofE E1
 have Ck0 := own_chK K1 na0 (CHr.refl hC0).1
 have Ah1 := (CHr.refl hC0).trans Ck0.1
 have V1 : Arv Z h1 b1 k1 .char 8 [z0, z0, z0, z0, z0, z0, z0, z0] z0 := (Arv.new A1 (by decide)).pad (pad_rep [] z0 8)
 obtain ⟨T2, h2, X2, e2, W2, V2, st2⟩ := own_astC X1 hx hZ e1 V1 (j := 0) (by decide) 0 rfl (Nat.le_of_ble_eq_true rfl) (g := (mkF m 28 #[vi p0, vi p1, vi p2, vi p3, vi 3, vi ((own_ch p1)), .unset, .unset, .unset, .unset, .unset] [(.int 68), z0, (.ref b1), (.ref b1)])) rfl rfl (hb hby at_28)
 rw [show (nar .char 68) = (68 : Int32) from by decide] at V2
 have gg3 := Nat.le_trans Z0 ge_b1
 have K2 := KL.ofW W2
 have Ck1 := own_chK K2 (naF (Ck0.2 _ (Safe.new ge_b1)) na0) Ah1.1
 have Ah2 := Ah1.trans Ck1.1
 replace V2 : Arv Z h2 b1 k1 .char 8 [(.int 68), z0, z0, z0, z0, z0, z0, z0] z0 := V2
 have N2 := Fr.snoc X2 N0 gg3
 obtain ⟨T4, h4, X4, e4, W4, V4, st4⟩ := own_astC X2 hx hZ e2 V2 (j := 1) (by decide) 1 rfl (Nat.le_of_ble_eq_true rfl) (g := (mkF m 33 #[vi p0, vi p1, vi p2, vi p3, vi 3, vi ((own_ch p1)), .unset, .unset, .unset, .unset, .unset] [(.int 100), (.int 1), (.ref b1), (.ref b1)])) rfl rfl (hb hby at_33)
 rw [show (nar .char 100) = (100 : Int32) from by decide] at V4
 have K4 := KL.ofW W4
 have sf5 := (Ck1.2 _ (Ck0.2 _ (Safe.new ge_b1)))
 have Ck2 := own_chK K4 (naF sf5 na0) Ah2.1
 have Ah3 := Ah2.trans Ck2.1
 replace V4 : Arv Z h4 b1 k1 .char 8 [(.int 68), (.int 100), z0, z0, z0, z0, z0, z0] z0 := V4
 have N4 := Fr.snoc X4 N2 gg3
 obtain ⟨T6, h6, X6, e6, W6, V6, st6⟩ := own_astC X4 hx hZ e4 V4 (j := 2) (by decide) 2 rfl (Nat.le_of_ble_eq_true rfl) (g := (mkF m 38 #[vi p0, vi p1, vi p2, vi p3, vi 3, vi ((own_ch p1)), .unset, .unset, .unset, .unset, .unset] [(.int 77), (.int 2), (.ref b1), (.ref b1)])) rfl rfl (hb hby at_38)
 rw [show (nar .char 77) = (77 : Int32) from by decide] at V6
 have K6 := KL.ofW W6
 have Ck3 := own_chK K6 (naF (Ck2.2 _ sf5) na0) Ah3.1
 have Ah4 := Ah3.trans Ck3.1
 replace V6 : Arv Z h6 b1 k1 .char 8 [(.int 68), (.int 100), (.int 77), z0, z0, z0, z0, z0] z0 := V6
 have N6 := Fr.snoc X6 N4 gg3
 obtain ⟨T7, h7, X7, e7, W7, V7, st7⟩ := own_astC X6 hx hZ e6 V6 (j := 3) (by decide) 3 rfl (Nat.le_of_ble_eq_true rfl) (g := (mkF m 43 #[vi p0, vi p1, vi p2, vi p3, vi 3, vi ((own_ch p1)), .unset, .unset, .unset, .unset, .unset] [(.int 109), (.int 3), (.ref b1), (.ref b1)])) rfl rfl (hb hby at_43)
 rw [show (nar .char 109) = (109 : Int32) from by decide] at V7
 have K7 := KL.ofW W7
 have sf8 := (Ck3.2 _ (Ck2.2 _ sf5))
 have Ck4 := own_chK K7 (naF sf8 na0) Ah4.1
 have Ah5 := Ah4.trans Ck4.1
 replace V7 : Arv Z h7 b1 k1 .char 8 [(.int 68), (.int 100), (.int 77), (.int 109), z0, z0, z0, z0] z0 := V7
 have N7 := Fr.snoc X7 N6 gg3
 obtain ⟨T9, h9, X9, e9, W9, V9, st9⟩ := own_astC X7 hx hZ e7 V7 (j := 4) (by decide) 4 rfl (Nat.le_of_ble_eq_true rfl) (g := (mkF m 48 #[vi p0, vi p1, vi p2, vi p3, vi 3, vi ((own_ch p1)), .unset, .unset, .unset, .unset, .unset] [(.int 89), (.int 4), (.ref b1), (.ref b1)])) rfl rfl (hb hby at_48)
 rw [show (nar .char 89) = (89 : Int32) from by decide] at V9
 have K9 := KL.ofW W9
 have Ck5 := own_chK K9 (naF (Ck4.2 _ sf8) na0) Ah5.1
 have Ah6 := Ah5.trans Ck5.1
 replace V9 : Arv Z h9 b1 k1 .char 8 [(.int 68), (.int 100), (.int 77), (.int 109), (.int 89), z0, z0, z0] z0 := V9
 have N9 := Fr.snoc X9 N7 gg3
 obtain ⟨T10, h10, X10, e10, W10, V10, st10⟩ := own_astC X9 hx hZ e9 V9 (j := 5) (by decide) 5 rfl (Nat.le_of_ble_eq_true rfl) (g := (mkF m 53 #[vi p0, vi p1, vi p2, vi p3, vi 3, vi ((own_ch p1)), .unset, .unset, .unset, .unset, .unset] [(.int 121), (.int 5), (.ref b1), (.ref b1)])) rfl rfl (hb hby at_53)
 rw [show (nar .char 121) = (121 : Int32) from by decide] at V10
 have K10 := KL.ofW W10
 have sf11 := (Ck5.2 _ (Ck4.2 _ sf8))
 have Ck6 := own_chK K10 (naF sf11 na0) Ah6.1
 have Ah7 := Ah6.trans Ck6.1
 replace V10 : Arv Z h10 b1 k1 .char 8 [(.int 68), (.int 100), (.int 77), (.int 109), (.int 89), (.int 121), z0, z0] z0 := V10
 have N10 := Fr.snoc X10 N9 gg3
 obtain ⟨T12, h12, X12, e12, W12, V12, st12⟩ := own_astC X10 hx hZ e10 V10 (j := 6) (by decide) 6 rfl (Nat.le_of_ble_eq_true rfl) (g := (mkF m 59 #[vi p0, vi p1, vi p2, vi p3, vi 3, vi ((own_ch p1)), .unset, .unset, .unset, .unset, .unset] [(.int 69), (.int 6), (.ref b1), (.ref b1)])) rfl rfl (hb hby at_59)
 rw [show (nar .char 69) = (69 : Int32) from by decide] at V12
 have K12 := KL.ofW W12
 have Ck7 := own_chK K12 (naF (Ck6.2 _ sf11) na0) Ah7.1
 have Ah8 := Ah7.trans Ck7.1
 replace V12 : Arv Z h12 b1 k1 .char 8 [(.int 68), (.int 100), (.int 77), (.int 109), (.int 89), (.int 121), (.int 69), z0] z0 := V12
 have N12 := Fr.snoc X12 N10 gg3
 obtain ⟨T13, h13, X13, e13, W13, V13, st13⟩ := own_astC X12 hx hZ e12 V12 (j := 7) (by decide) 7 rfl (Nat.le_of_ble_eq_true rfl) (g := (mkF m 65 #[vi p0, vi p1, vi p2, vi p3, vi 3, vi ((own_ch p1)), .unset, .unset, .unset, .unset, .unset] [(.int 78), (.int 7), (.ref b1), (.ref b1)])) rfl rfl (hb hby at_65)
 rw [show (nar .char 78) = (78 : Int32) from by decide] at V13
 have K13 := KL.ofW W13
 have sf14 := (Ck7.2 _ (Ck6.2 _ sf11))
 have Ck8 := own_chK K13 (naF sf14 na0) Ah8.1
 have Ah9 := Ah8.trans Ck8.1
 replace V13 : Arv Z h13 b1 k1 .char 8 [(.int 68), (.int 100), (.int 77), (.int 109), (.int 89), (.int 121), (.int 69), (.int 78)] z0 := V13
 have N13 := Fr.snoc X13 N12 gg3
 have f16 := (kOld K13 (kOld K12 (kOld K10 (kOld K9 (kOld K7 (kOld K6 (kOld K4 (kOld K2 (kOld K1 O0 na0) (naG gg3 na0)) (naG gg3 na0)) (naG gg3 na0)) (naG gg3 na0)) (naG gg3 na0)) (naG gg3 na0)) (naG gg3 na0)) (naG gg3 na0))
 have sz_0_2 := (Nat.le_trans K1.1 K2.1)
 have sz_0_3 := (Nat.le_trans sz_0_2 K4.1)
 have sz_0_4 := (Nat.le_trans sz_0_3 K6.1)
 have sz_0_5 := (Nat.le_trans sz_0_4 K7.1)
 have sz_0_6 := (Nat.le_trans sz_0_5 K9.1)
 have sz_0_7 := (Nat.le_trans sz_0_6 K10.1)
 have sz_0_8 := (Nat.le_trans sz_0_7 K12.1)
 have sz_0_9 := (Nat.le_trans sz_0_8 K13.1)
 obtain ⟨_, T15, L15, X15, hQ15, st15⟩ := own_static X13 hx hZ hown (w1 hw) (w2 hw) (w3 hw) (w4 hw) (by decide) (r85_make l Z a0 hw [] (own_let p1) (own_ch p2) (own_ch p3) cs h13 n0 (Nat.le_trans Z0 sz_0_9) (own_leta p1) (own_letc p1) (own_m16a p2) (own_m16b p2) (own_m16a p3) (own_m16b p3) sCS S__assertionsDisabled S_HI_BYTE_SHIFT S_LO_BYTE_SHIFT f16 hcs (own_letd p1) hbb) e13 (W := 0) (by decide) (g := (mkF m 102 #[vi p0, vi p1, vi p2, vi p3, vi 3, vi ((own_let p1)), vi ((own_ch p2)), vi ((own_ch p3)), .unset, .unset, .unset] [(.int (own_ch p3)), (.int (own_ch p2)), (.int (own_let p1)), (.int 3)])) rfl hml.symm (argsL := [(.int 3), (.int (own_let p1)), (.int (own_ch p2)), (.int (own_ch p3))]) (rest := []) (lenOf pd_11 rfl) rfl rfl (own_wr rfl rfl) (hb hby at_102)
 obtain ⟨b4_15, b2_1_9_7_5_11_15, k2_1_9_7_5_11_15, rfl, N15q, K15, Q15_0, Q15_1, Q15_2, Q15_3, Q15_4, Q15_5, Q15_6⟩ := hQ15
 have N15 := Fr.app N13 N15q
 have Ck9 := own_chK K15 na0 Ah9.1
 have Ah10 := Ah9.trans Ck9.1
 have f20 := (kOld K15 f16 na0)
 have sz_0_10 := (Nat.le_trans sz_0_9 K15.1)
 obtain ⟨_, T19, L19, X19, hQ19, st19⟩ := own_static X15 hx hZ hown (w27 hw) (w28 hw) (w29 hw) (w30 hw) (by decide) (r68_unitOf l Z a0 hw [] b4_15 b2_1_9_7_5_11_15 ((own_let p1).toInt8.toInt32) (((own_let p1) >>> ((8 : Int32) &&& 31)).toInt8.toInt32) ((own_ch p2).toInt8.toInt32) (((own_ch p2) >>> ((8 : Int32) &&& 31)).toInt8.toInt32) ((own_ch p3).toInt8.toInt32) (((own_ch p3) >>> ((8 : Int32) &&& 31)).toInt8.toInt32) k2_1_9_7_5_11_15 cs st_EMPTY T15.heap n0 (Nat.le_trans Z0 sz_0_10) Q15_3 Q15_4 Q15_6 sCS Q15_5 f20 hcs S_EMPTY) rfl (W := 0) (by decide) (g := (mkF m 109 #[vi p0, vi p1, vi p2, vi p3, vi 3, vi ((own_let p1)), vi ((own_ch p2)), vi ((own_ch p3)), vr b4_15, .unset, .unset] [(.ref b4_15)])) rfl hml.symm (argsL := [(.ref b4_15)]) (rest := []) (lenOf pd_12 rfl) rfl rfl (own_wr rfl rfl) (hb hby at_109)
 obtain ⟨rfl, N19q, e19⟩ := hQ19
 have N19 := Fr.app N15 N19q
 obtain ⟨_, T21, L21, X21, hQ21, st21⟩ := own_static X19 hx hZ hown (w47 hw) (w48 hw) (w3 hw) (w49 hw) (by decide) (r70_expected l Z a0 hw [] (own_let p1) T15.heap n0 (Nat.le_trans Z0 sz_0_10)) e19 (W := 0) (by decide) (g := (mkF m 118 #[vi p0, vi p1, vi p2, vi p3, vi 3, vi ((own_let p1)), vi ((own_ch p2)), vi ((own_ch p3)), vr b4_15, vr st_EMPTY, .unset] [(.int (own_let p1)), (.int 3)])) rfl hml.symm (argsL := [(.int 3), (.int (own_let p1))]) (rest := []) (lenOf pd_13 rfl) rfl rfl (own_wr rfl rfl) (hb hby at_118)
 obtain ⟨rfl, N21q, e21⟩ := hQ21
 have N21 := Fr.app N19 N21q
 have lt_st_EMPTY : st_EMPTY < h0.size := Exa.lt E_st_EMPTY
 have ne23 := lt_ne lt_st_EMPTY ge_b1
 have f24 := (kFld K15 (kFld K13 (kFld K12 (kFld K10 (kFld K9 (kFld K7 (kFld K6 (kFld K4 (kFld K2 (kFld K1 F_st_EMPTY_value nw0) (nwL ne23 nw0)) (nwL ne23 nw0)) (nwL ne23 nw0)) (nwL ne23 nw0)) (nwL ne23 nw0)) (nwL ne23 nw0)) (nwL ne23 nw0)) (nwL ne23 nw0)) nw0)
 have f25 := (kExa K15 (kExa K13 (kExa K12 (kExa K10 (kExa K9 (kExa K7 (kExa K6 (kExa K4 (kExa K2 (kExa K1 E_st_EMPTY))))))))))
 obtain ⟨_, T22, L22, X22, hQ22, st22⟩ := own_virtual X21 hx hZ hown (w50 hw) (w51 hw) (nfS hZ (w53 hw)) (w53 hw) (w52 hw) (w44 hw) (w54 hw) (by decide) (r15_isPresent l Z a0 hw [] st_EMPTY T15.heap n0 (Nat.le_trans Z0 sz_0_10) f24) e21 f25 (W := 0) (by decide) (g := (mkF m 130 #[vi p0, vi p1, vi p2, vi p3, vi 3, vi ((own_let p1)), vi ((own_ch p2)), vi ((own_ch p3)), vr b4_15, vr st_EMPTY, .val .null] [(.ref st_EMPTY)])) rfl hml.symm (argsL := []) (rest := []) (lenOf pd_3 rfl) rfl rfl (own_wr rfl rfl) (hb hby at_130)
 obtain ⟨rfl, N22q, e22⟩ := hQ22
 have N22 := Fr.app N21 N22q
 refine ⟨T22, _, some (.int 1), _, _, X22, hS0, (by rw [e22]; exact (Nat.le_trans hk0 sz_0_10)), (fun h => by cases h <;> rfl), ?_, (by rw [e22]; exact Ah10), hZ, fun fs hr => ?_⟩
 · show Q_law n0 _ _
   exact ⟨rfl, N22⟩
 refine t_iloadN 1 X0.here hx hby at_0 rfl rfl ?_
 refine t_iconst 2 (r := 3) X0.here hx hby at_1 (by decide) rfl ?_
 refine t_iand 3 (r := 3) X0.here hx hby at_2 hln rfl ?_
 refine t_istore (pc' := 5) (L' := #[vi p0, vi p1, vi p2, vi p3, vi 3, .unset, .unset, .unset, .unset, .unset, .unset]) X0.here hx hby at_3 rfl rfl ?_
 refine t_iloadN 6 X0.here hx hby at_5 rfl rfl ?_
 refine X0.ldcInt hx hown (mvT hZ (w0 hw)) (g := (mkF m 6 #[vi p0, vi p1, vi p2, vi p3, vi 3, .unset, .unset, .unset, .unset, .unset, .unset] [(.int p1)])) rfl (hb hby at_6) _ ?_
 refine t_iand 9 (r := (own_ch p1)) X0.here hx hby at_8 (Eq.refl (own_ch p1)) rfl ?_
 refine t_i2c 10 (r := (own_ch p1)) X0.here hx hby at_9 (own_c2d (own_m16a p1) (own_m16b p1)) rfl ?_
 refine t_istore (pc' := 12) (L' := #[vi p0, vi p1, vi p2, vi p3, vi 3, vi ((own_ch p1)), .unset, .unset, .unset, .unset, .unset]) X0.here hx hby at_10 rfl rfl ?_
 refine t_iloadN 13 X0.here hx hby at_12 rfl rfl ?_
 refine t_iconst 14 (r := 2) X0.here hx hby at_13 (by decide) rfl ?_
 refine t_iushr 15 X0.here hx hby at_14 rfl rfl ?_
 refine t_iconst 16 (r := 1) X0.here hx hby at_15 (by decide) rfl ?_
 refine t_iand 17 (r := 1) X0.here hx hby at_16 hbit rfl ?_
 refine t_ifNo 20 X0.here hx hby at_17 (by decide) rfl ?_
 refine t_bipush 22 (r := 8) X0.here hx hby at_20 (by decide) rfl ?_
 refine st1 _ ?_
 refine t_dup 25 X1.here hx hby at_24 rfl rfl ?_
 refine t_iconst 26 (r := 0) X1.here hx hby at_25 (by decide) rfl ?_
 refine t_bipush 28 (r := 68) X1.here hx hby at_26 (by decide) rfl ?_
 refine st2 _ ?_
 refine t_dup 30 X2.here hx hby at_29 rfl rfl ?_
 refine t_iconst 31 (r := 1) X2.here hx hby at_30 (by decide) rfl ?_
 refine t_bipush 33 (r := 100) X2.here hx hby at_31 (by decide) rfl ?_
 refine st4 _ ?_
 refine t_dup 35 X4.here hx hby at_34 rfl rfl ?_
 refine t_iconst 36 (r := 2) X4.here hx hby at_35 (by decide) rfl ?_
 refine t_bipush 38 (r := 77) X4.here hx hby at_36 (by decide) rfl ?_
 refine st6 _ ?_
 refine t_dup 40 X6.here hx hby at_39 rfl rfl ?_
 refine t_iconst 41 (r := 3) X6.here hx hby at_40 (by decide) rfl ?_
 refine t_bipush 43 (r := 109) X6.here hx hby at_41 (by decide) rfl ?_
 refine st7 _ ?_
 refine t_dup 45 X7.here hx hby at_44 rfl rfl ?_
 refine t_iconst 46 (r := 4) X7.here hx hby at_45 (by decide) rfl ?_
 refine t_bipush 48 (r := 89) X7.here hx hby at_46 (by decide) rfl ?_
 refine st9 _ ?_
 refine t_dup 50 X9.here hx hby at_49 rfl rfl ?_
 refine t_iconst 51 (r := 5) X9.here hx hby at_50 (by decide) rfl ?_
 refine t_bipush 53 (r := 121) X9.here hx hby at_51 (by decide) rfl ?_
 refine st10 _ ?_
 refine t_dup 55 X10.here hx hby at_54 rfl rfl ?_
 refine t_bipush 57 (r := 6) X10.here hx hby at_55 (by decide) rfl ?_
 refine t_bipush 59 (r := 69) X10.here hx hby at_57 (by decide) rfl ?_
 refine st12 _ ?_
 refine t_dup 61 X12.here hx hby at_60 rfl rfl ?_
 refine t_bipush 63 (r := 7) X12.here hx hby at_61 (by decide) rfl ?_
 refine t_bipush 65 (r := 78) X12.here hx hby at_63 (by decide) rfl ?_
 refine st13 _ ?_
 refine t_astore (pc' := 68) (L' := #[vi p0, vi p1, vi p2, vi p3, vi 3, vi ((own_ch p1)), vr b1, .unset, .unset, .unset, .unset]) X13.here hx hby at_66 rfl rfl rfl ?_
 refine t_aload 70 X13.here hx hby at_68 rfl rfl rfl ?_
 refine t_iloadN 71 X13.here hx hby at_70 rfl rfl ?_
 refine X13.ldcInt hx hown (mvT hZ (w57 hw)) (g := (mkF m 71 #[vi p0, vi p1, vi p2, vi p3, vi 3, vi ((own_ch p1)), vr b1, .unset, .unset, .unset, .unset] [(.int p1), (.ref b1)])) rfl (hb hby at_71) _ ?_
 refine t_iand 74 X13.here hx hby at_73 rfl rfl ?_
 refine t_bipush 76 (r := 8) X13.here hx hby at_74 (by decide) rfl ?_
 refine t_irem 77 X13.here hx hby at_76 (by decide) rfl rfl ?_
 refine own_aldC (pc' := 78) X13 hx hZ e13 V13 (j := ((p1 &&& (2147483647 : Int32)) - ((p1 &&& (2147483647 : Int32)) / (8 : Int32)) * (8 : Int32))) (v := (.int (own_let p1))) (own_letb p1) (own_letv p1) (hb hby at_77) rfl ?_
 refine t_istore (pc' := 80) (L' := #[vi p0, vi p1, vi p2, vi p3, vi 3, vi ((own_let p1)), vr b1, .unset, .unset, .unset, .unset]) X13.here hx hby at_78 rfl rfl ?_
 refine t_iloadN 81 X13.here hx hby at_80 rfl rfl ?_
 refine X13.ldcInt hx hown (mvT hZ (w0 hw)) (g := (mkF m 81 #[vi p0, vi p1, vi p2, vi p3, vi 3, vi ((own_let p1)), vr b1, .unset, .unset, .unset, .unset] [(.int p2)])) rfl (hb hby at_81) _ ?_
 refine t_iand 84 (r := (own_ch p2)) X13.here hx hby at_83 (Eq.refl (own_ch p2)) rfl ?_
 refine t_i2c 85 (r := (own_ch p2)) X13.here hx hby at_84 (own_c2d (own_m16a p2) (own_m16b p2)) rfl ?_
 refine t_istore (pc' := 87) (L' := #[vi p0, vi p1, vi p2, vi p3, vi 3, vi ((own_let p1)), vi ((own_ch p2)), .unset, .unset, .unset, .unset]) X13.here hx hby at_85 rfl rfl ?_
 refine t_iloadN 88 X13.here hx hby at_87 rfl rfl ?_
 refine X13.ldcInt hx hown (mvT hZ (w0 hw)) (g := (mkF m 88 #[vi p0, vi p1, vi p2, vi p3, vi 3, vi ((own_let p1)), vi ((own_ch p2)), .unset, .unset, .unset, .unset] [(.int p3)])) rfl (hb hby at_88) _ ?_
 refine t_iand 91 (r := (own_ch p3)) X13.here hx hby at_90 (Eq.refl (own_ch p3)) rfl ?_
 refine t_i2c 92 (r := (own_ch p3)) X13.here hx hby at_91 (own_c2d (own_m16a p3) (own_m16b p3)) rfl ?_
 refine t_istore (pc' := 94) (L' := #[vi p0, vi p1, vi p2, vi p3, vi 3, vi ((own_let p1)), vi ((own_ch p2)), vi ((own_ch p3)), .unset, .unset, .unset]) X13.here hx hby at_92 rfl rfl ?_
 refine t_iload 96 X13.here hx hby at_94 rfl rfl ?_
 refine t_iload 98 X13.here hx hby at_96 rfl rfl ?_
 refine t_iload 100 X13.here hx hby at_98 rfl rfl ?_
 refine t_iload 102 X13.here hx hby at_100 rfl rfl ?_
 refine st15 _ ?_
 refine t_astore (pc' := 107) (L' := #[vi p0, vi p1, vi p2, vi p3, vi 3, vi ((own_let p1)), vi ((own_ch p2)), vi ((own_ch p3)), vr b4_15, .unset, .unset]) X15.here hx hby at_105 rfl rfl rfl ?_
 refine t_aload 109 X15.here hx hby at_107 rfl rfl rfl ?_
 refine st19 _ ?_
 refine t_astore (pc' := 114) (L' := #[vi p0, vi p1, vi p2, vi p3, vi 3, vi ((own_let p1)), vi ((own_ch p2)), vi ((own_ch p3)), vr b4_15, vr st_EMPTY, .unset]) X19.here hx hby at_112 rfl rfl rfl ?_
 refine t_iload 116 X19.here hx hby at_114 rfl rfl ?_
 refine t_iload 118 X19.here hx hby at_116 rfl rfl ?_
 refine st21 _ ?_
 refine t_astore (pc' := 123) (L' := #[vi p0, vi p1, vi p2, vi p3, vi 3, vi ((own_let p1)), vi ((own_ch p2)), vi ((own_ch p3)), vr b4_15, vr st_EMPTY, .val .null]) X21.here hx hby at_121 rfl rfl rfl ?_
 refine t_aload 125 X21.here hx hby at_123 rfl rfl rfl ?_
 refine t_ifnonnullNo 128 X21.here hx hby at_125 rfl ?_
 refine t_aload 130 X21.here hx hby at_128 rfl rfl rfl ?_
 refine st22 _ ?_
 refine t_ifNo 136 X22.here hx hby at_133 (by decide) rfl ?_
 refine t_iconst 137 (r := 1) X22.here hx hby at_136 (by decide) rfl ?_
 refine t_goto (pc := 137) 141 X22.here hx hby at_137 (by decide) (by decide) ?_
 exact retN X22 hx (t := .boolean) hret (by simp) (hb hby at_141) hr
theorem law_b3_c (l : Launch) (Z : State) (a0 : Array Value) (hw : HW Z a0) (ws : List Jvm.Cond) (p0 p1 p2 p3 cs : Int32) (fm : Value) (st_EMPTY st_DAYS st_MONTHS st_YEARS : Addr) (h0 : Heap) (n0 : Nat) (Z0 : n0 ≤ h0.size) (hbb : ¬ ((255 : Int32) < (own_ch p2))) (hcc : (255 : Int32) < (own_ch p3)) (hcs : ¬ (cs = (0 : Int32))) (hln : (p0 &&& (3 : Int32)) = (3 : Int32)) (hbit : (((p0.toUInt32 >>> ((2 : Int32) &&& 31).toUInt32).toInt32) &&& (1 : Int32)) = (1 : Int32)) (sCS : SCS Z cs) (S__assertionsDisabled : Sa5 Z (.int 1)) (S_HI_BYTE_SHIFT : Sa6 Z z0) (S_LO_BYTE_SHIFT : Sa7 Z (.int 8)) (O0 : Old Z n0 h0) (S_EMPTY : Sa4 Z (.ref st_EMPTY)) (E_st_EMPTY : Ex1 Z h0 st_EMPTY) (F_st_EMPTY_value : Fd2 Z h0 st_EMPTY .null) :
    LawM l Z ws p0 p1 p2 p3 h0 n0 := by
 refine own_bodyH (k := 5) (n := 24) (y := x) (Q := fun v _ L => Q_law n0 v L) (own_EW hw) (plainFor_of_name pn_PaymentFrequencyUnitOfPinLaw855) (ef_law p0 p1 p2 p3) (by decide) (by decide) ?_
 intro p e s m below meth c s₁ hx hby hml hown hnm hret hZ e0 hS0 hk0 X0 hC0 hSF0
 have N0 := Fr.nil n0
 obtain ⟨T1, h1, k1, X1, e1, E1, A1, st1⟩ := newP (aty := .char) X0 hx hZ (w8 hw) e0 (g := (mkF m 22 #[vi p0, vi p1, vi p2, vi p3, vi 3, vi ((own_ch p1)), .unset, .unset, .unset, .unset, .unset] [(.int 8)])) rfl (hb hby at_22) rfl (by decide) (cap := 8) (by decide) (by decide) (by decide) (by decide)
 obtain ⟨b1, g1⟩ : ∃ z, z = h0.size := ⟨_, rfl⟩
 rw [← g1] at A1 st1
 have ge_b1 : h0.size ≤ b1 := Nat.le_of_eq g1.symm
 have K1 := KL.ofE E1
 have Ck0 := own_chK K1 na0 (CHr.refl hC0).1
 have Ah1 := (CHr.refl hC0).trans Ck0.1
 have V1 : Arv Z h1 b1 k1 .char 8 [z0, z0, z0, z0, z0, z0, z0, z0] z0 := (Arv.new A1 (by decide)).pad (pad_rep [] z0 8)
 obtain ⟨T2, h2, X2, e2, W2, V2, st2⟩ := own_astC X1 hx hZ e1 V1 (j := 0) (by decide) 0 rfl (Nat.le_of_ble_eq_true rfl) (g := (mkF m 28 #[vi p0, vi p1, vi p2, vi p3, vi 3, vi ((own_ch p1)), .unset, .unset, .unset, .unset, .unset] [(.int 68), z0, (.ref b1), (.ref b1)])) rfl rfl (hb hby at_28)
 rw [show (nar .char 68) = (68 : Int32) from by decide] at V2
 have gg3 := Nat.le_trans Z0 ge_b1
 have K2 := KL.ofW W2
 have Ck1 := own_chK K2 (naF (Ck0.2 _ (Safe.new ge_b1)) na0) Ah1.1
 have Ah2 := Ah1.trans Ck1.1
 replace V2 : Arv Z h2 b1 k1 .char 8 [(.int 68), z0, z0, z0, z0, z0, z0, z0] z0 := V2
 have N2 := Fr.snoc X2 N0 gg3
 obtain ⟨T4, h4, X4, e4, W4, V4, st4⟩ := own_astC X2 hx hZ e2 V2 (j := 1) (by decide) 1 rfl (Nat.le_of_ble_eq_true rfl) (g := (mkF m 33 #[vi p0, vi p1, vi p2, vi p3, vi 3, vi ((own_ch p1)), .unset, .unset, .unset, .unset, .unset] [(.int 100), (.int 1), (.ref b1), (.ref b1)])) rfl rfl (hb hby at_33)
 rw [show (nar .char 100) = (100 : Int32) from by decide] at V4
 have K4 := KL.ofW W4
 have sf5 := (Ck1.2 _ (Ck0.2 _ (Safe.new ge_b1)))
 have Ck2 := own_chK K4 (naF sf5 na0) Ah2.1
 have Ah3 := Ah2.trans Ck2.1
 replace V4 : Arv Z h4 b1 k1 .char 8 [(.int 68), (.int 100), z0, z0, z0, z0, z0, z0] z0 := V4
 have N4 := Fr.snoc X4 N2 gg3
 obtain ⟨T6, h6, X6, e6, W6, V6, st6⟩ := own_astC X4 hx hZ e4 V4 (j := 2) (by decide) 2 rfl (Nat.le_of_ble_eq_true rfl) (g := (mkF m 38 #[vi p0, vi p1, vi p2, vi p3, vi 3, vi ((own_ch p1)), .unset, .unset, .unset, .unset, .unset] [(.int 77), (.int 2), (.ref b1), (.ref b1)])) rfl rfl (hb hby at_38)
 rw [show (nar .char 77) = (77 : Int32) from by decide] at V6
 have K6 := KL.ofW W6
 have Ck3 := own_chK K6 (naF (Ck2.2 _ sf5) na0) Ah3.1
 have Ah4 := Ah3.trans Ck3.1
 replace V6 : Arv Z h6 b1 k1 .char 8 [(.int 68), (.int 100), (.int 77), z0, z0, z0, z0, z0] z0 := V6
 have N6 := Fr.snoc X6 N4 gg3
 obtain ⟨T7, h7, X7, e7, W7, V7, st7⟩ := own_astC X6 hx hZ e6 V6 (j := 3) (by decide) 3 rfl (Nat.le_of_ble_eq_true rfl) (g := (mkF m 43 #[vi p0, vi p1, vi p2, vi p3, vi 3, vi ((own_ch p1)), .unset, .unset, .unset, .unset, .unset] [(.int 109), (.int 3), (.ref b1), (.ref b1)])) rfl rfl (hb hby at_43)
 rw [show (nar .char 109) = (109 : Int32) from by decide] at V7
 have K7 := KL.ofW W7
 have sf8 := (Ck3.2 _ (Ck2.2 _ sf5))
 have Ck4 := own_chK K7 (naF sf8 na0) Ah4.1
 have Ah5 := Ah4.trans Ck4.1
 replace V7 : Arv Z h7 b1 k1 .char 8 [(.int 68), (.int 100), (.int 77), (.int 109), z0, z0, z0, z0] z0 := V7
 have N7 := Fr.snoc X7 N6 gg3
 obtain ⟨T9, h9, X9, e9, W9, V9, st9⟩ := own_astC X7 hx hZ e7 V7 (j := 4) (by decide) 4 rfl (Nat.le_of_ble_eq_true rfl) (g := (mkF m 48 #[vi p0, vi p1, vi p2, vi p3, vi 3, vi ((own_ch p1)), .unset, .unset, .unset, .unset, .unset] [(.int 89), (.int 4), (.ref b1), (.ref b1)])) rfl rfl (hb hby at_48)
 rw [show (nar .char 89) = (89 : Int32) from by decide] at V9
 have K9 := KL.ofW W9
 have Ck5 := own_chK K9 (naF (Ck4.2 _ sf8) na0) Ah5.1
 have Ah6 := Ah5.trans Ck5.1
 replace V9 : Arv Z h9 b1 k1 .char 8 [(.int 68), (.int 100), (.int 77), (.int 109), (.int 89), z0, z0, z0] z0 := V9
 have N9 := Fr.snoc X9 N7 gg3
 obtain ⟨T10, h10, X10, e10, W10, V10, st10⟩ := own_astC X9 hx hZ e9 V9 (j := 5) (by decide) 5 rfl (Nat.le_of_ble_eq_true rfl) (g := (mkF m 53 #[vi p0, vi p1, vi p2, vi p3, vi 3, vi ((own_ch p1)), .unset, .unset, .unset, .unset, .unset] [(.int 121), (.int 5), (.ref b1), (.ref b1)])) rfl rfl (hb hby at_53)
 rw [show (nar .char 121) = (121 : Int32) from by decide] at V10
 have K10 := KL.ofW W10
 have sf11 := (Ck5.2 _ (Ck4.2 _ sf8))
 have Ck6 := own_chK K10 (naF sf11 na0) Ah6.1
 have Ah7 := Ah6.trans Ck6.1
 replace V10 : Arv Z h10 b1 k1 .char 8 [(.int 68), (.int 100), (.int 77), (.int 109), (.int 89), (.int 121), z0, z0] z0 := V10
 have N10 := Fr.snoc X10 N9 gg3
 obtain ⟨T12, h12, X12, e12, W12, V12, st12⟩ := own_astC X10 hx hZ e10 V10 (j := 6) (by decide) 6 rfl (Nat.le_of_ble_eq_true rfl) (g := (mkF m 59 #[vi p0, vi p1, vi p2, vi p3, vi 3, vi ((own_ch p1)), .unset, .unset, .unset, .unset, .unset] [(.int 69), (.int 6), (.ref b1), (.ref b1)])) rfl rfl (hb hby at_59)
 rw [show (nar .char 69) = (69 : Int32) from by decide] at V12
 have K12 := KL.ofW W12
 have Ck7 := own_chK K12 (naF (Ck6.2 _ sf11) na0) Ah7.1
 have Ah8 := Ah7.trans Ck7.1
 replace V12 : Arv Z h12 b1 k1 .char 8 [(.int 68), (.int 100), (.int 77), (.int 109), (.int 89), (.int 121), (.int 69), z0] z0 := V12
 have N12 := Fr.snoc X12 N10 gg3
 obtain ⟨T13, h13, X13, e13, W13, V13, st13⟩ := own_astC X12 hx hZ e12 V12 (j := 7) (by decide) 7 rfl (Nat.le_of_ble_eq_true rfl) (g := (mkF m 65 #[vi p0, vi p1, vi p2, vi p3, vi 3, vi ((own_ch p1)), .unset, .unset, .unset, .unset, .unset] [(.int 78), (.int 7), (.ref b1), (.ref b1)])) rfl rfl (hb hby at_65)
 rw [show (nar .char 78) = (78 : Int32) from by decide] at V13
 have K13 := KL.ofW W13
 have sf14 := (Ck7.2 _ (Ck6.2 _ sf11))
 have Ck8 := own_chK K13 (naF sf14 na0) Ah8.1
 have Ah9 := Ah8.trans Ck8.1
 replace V13 : Arv Z h13 b1 k1 .char 8 [(.int 68), (.int 100), (.int 77), (.int 109), (.int 89), (.int 121), (.int 69), (.int 78)] z0 := V13
 have N13 := Fr.snoc X13 N12 gg3
 have f16 := (kOld K13 (kOld K12 (kOld K10 (kOld K9 (kOld K7 (kOld K6 (kOld K4 (kOld K2 (kOld K1 O0 na0) (naG gg3 na0)) (naG gg3 na0)) (naG gg3 na0)) (naG gg3 na0)) (naG gg3 na0)) (naG gg3 na0)) (naG gg3 na0)) (naG gg3 na0))
 have sz_0_2 := (Nat.le_trans K1.1 K2.1)
 have sz_0_3 := (Nat.le_trans sz_0_2 K4.1)
 have sz_0_4 := (Nat.le_trans sz_0_3 K6.1)
 have sz_0_5 := (Nat.le_trans sz_0_4 K7.1)
 have sz_0_6 := (Nat.le_trans sz_0_5 K9.1)
 have sz_0_7 := (Nat.le_trans sz_0_6 K10.1)
 have sz_0_8 := (Nat.le_trans sz_0_7 K12.1)
 have sz_0_9 := (Nat.le_trans sz_0_8 K13.1)
 obtain ⟨_, T15, L15, X15, hQ15, st15⟩ := own_static X13 hx hZ hown (w1 hw) (w2 hw) (w3 hw) (w4 hw) (by decide) (r91_make l Z a0 hw [] (own_let p1) (own_ch p2) (own_ch p3) cs h13 n0 (Nat.le_trans Z0 sz_0_9) (own_leta p1) (own_letc p1) (own_m16a p2) (own_m16b p2) (own_m16a p3) (own_m16b p3) sCS S__assertionsDisabled S_HI_BYTE_SHIFT S_LO_BYTE_SHIFT f16 hcs (own_letd p1) hbb hcc) e13 (W := 0) (by decide) (g := (mkF m 102 #[vi p0, vi p1, vi p2, vi p3, vi 3, vi ((own_let p1)), vi ((own_ch p2)), vi ((own_ch p3)), .unset, .unset, .unset] [(.int (own_ch p3)), (.int (own_ch p2)), (.int (own_let p1)), (.int 3)])) rfl hml.symm (argsL := [(.int 3), (.int (own_let p1)), (.int (own_ch p2)), (.int (own_ch p3))]) (rest := []) (lenOf pd_11 rfl) rfl rfl (own_wr rfl rfl) (hb hby at_102)
 obtain ⟨b4_15, b2_1_9_7_5_11_15, k2_1_9_7_5_11_15, rfl, N15q, K15, Q15_0, Q15_1, Q15_2, Q15_3, Q15_4, Q15_5, Q15_6⟩ := hQ15
 have N15 := Fr.app N13 N15q
 have Ck9 := own_chK K15 na0 Ah9.1
 have Ah10 := Ah9.trans Ck9.1
 have f20 := (kOld K15 f16 na0)
 have sz_0_10 := (Nat.le_trans sz_0_9 K15.1)
 obtain ⟨_, T19, L19, X19, hQ19, st19⟩ := own_static X15 hx hZ hown (w27 hw) (w28 hw) (w29 hw) (w30 hw) (by decide) (r68_unitOf l Z a0 hw [] b4_15 b2_1_9_7_5_11_15 ((own_let p1).toInt8.toInt32) (((own_let p1) >>> ((8 : Int32) &&& 31)).toInt8.toInt32) ((own_ch p2).toInt8.toInt32) (((own_ch p2) >>> ((8 : Int32) &&& 31)).toInt8.toInt32) ((own_ch p3).toInt8.toInt32) (((own_ch p3) >>> ((8 : Int32) &&& 31)).toInt8.toInt32) k2_1_9_7_5_11_15 cs st_EMPTY T15.heap n0 (Nat.le_trans Z0 sz_0_10) Q15_3 Q15_4 Q15_6 sCS Q15_5 f20 hcs S_EMPTY) rfl (W := 0) (by decide) (g := (mkF m 109 #[vi p0, vi p1, vi p2, vi p3, vi 3, vi ((own_let p1)), vi ((own_ch p2)), vi ((own_ch p3)), vr b4_15, .unset, .unset] [(.ref b4_15)])) rfl hml.symm (argsL := [(.ref b4_15)]) (rest := []) (lenOf pd_12 rfl) rfl rfl (own_wr rfl rfl) (hb hby at_109)
 obtain ⟨rfl, N19q, e19⟩ := hQ19
 have N19 := Fr.app N15 N19q
 obtain ⟨_, T21, L21, X21, hQ21, st21⟩ := own_static X19 hx hZ hown (w47 hw) (w48 hw) (w3 hw) (w49 hw) (by decide) (r70_expected l Z a0 hw [] (own_let p1) T15.heap n0 (Nat.le_trans Z0 sz_0_10)) e19 (W := 0) (by decide) (g := (mkF m 118 #[vi p0, vi p1, vi p2, vi p3, vi 3, vi ((own_let p1)), vi ((own_ch p2)), vi ((own_ch p3)), vr b4_15, vr st_EMPTY, .unset] [(.int (own_let p1)), (.int 3)])) rfl hml.symm (argsL := [(.int 3), (.int (own_let p1))]) (rest := []) (lenOf pd_13 rfl) rfl rfl (own_wr rfl rfl) (hb hby at_118)
 obtain ⟨rfl, N21q, e21⟩ := hQ21
 have N21 := Fr.app N19 N21q
 have lt_st_EMPTY : st_EMPTY < h0.size := Exa.lt E_st_EMPTY
 have ne23 := lt_ne lt_st_EMPTY ge_b1
 have f24 := (kFld K15 (kFld K13 (kFld K12 (kFld K10 (kFld K9 (kFld K7 (kFld K6 (kFld K4 (kFld K2 (kFld K1 F_st_EMPTY_value nw0) (nwL ne23 nw0)) (nwL ne23 nw0)) (nwL ne23 nw0)) (nwL ne23 nw0)) (nwL ne23 nw0)) (nwL ne23 nw0)) (nwL ne23 nw0)) (nwL ne23 nw0)) nw0)
 have f25 := (kExa K15 (kExa K13 (kExa K12 (kExa K10 (kExa K9 (kExa K7 (kExa K6 (kExa K4 (kExa K2 (kExa K1 E_st_EMPTY))))))))))
 obtain ⟨_, T22, L22, X22, hQ22, st22⟩ := own_virtual X21 hx hZ hown (w50 hw) (w51 hw) (nfS hZ (w53 hw)) (w53 hw) (w52 hw) (w44 hw) (w54 hw) (by decide) (r15_isPresent l Z a0 hw [] st_EMPTY T15.heap n0 (Nat.le_trans Z0 sz_0_10) f24) e21 f25 (W := 0) (by decide) (g := (mkF m 130 #[vi p0, vi p1, vi p2, vi p3, vi 3, vi ((own_let p1)), vi ((own_ch p2)), vi ((own_ch p3)), vr b4_15, vr st_EMPTY, .val .null] [(.ref st_EMPTY)])) rfl hml.symm (argsL := []) (rest := []) (lenOf pd_3 rfl) rfl rfl (own_wr rfl rfl) (hb hby at_130)
 obtain ⟨rfl, N22q, e22⟩ := hQ22
 have N22 := Fr.app N21 N22q
 refine ⟨T22, _, some (.int 1), _, _, X22, hS0, (by rw [e22]; exact (Nat.le_trans hk0 sz_0_10)), (fun h => by cases h <;> rfl), ?_, (by rw [e22]; exact Ah10), hZ, fun fs hr => ?_⟩
 · show Q_law n0 _ _
   exact ⟨rfl, N22⟩
 refine t_iloadN 1 X0.here hx hby at_0 rfl rfl ?_
 refine t_iconst 2 (r := 3) X0.here hx hby at_1 (by decide) rfl ?_
 refine t_iand 3 (r := 3) X0.here hx hby at_2 hln rfl ?_
 refine t_istore (pc' := 5) (L' := #[vi p0, vi p1, vi p2, vi p3, vi 3, .unset, .unset, .unset, .unset, .unset, .unset]) X0.here hx hby at_3 rfl rfl ?_
 refine t_iloadN 6 X0.here hx hby at_5 rfl rfl ?_
 refine X0.ldcInt hx hown (mvT hZ (w0 hw)) (g := (mkF m 6 #[vi p0, vi p1, vi p2, vi p3, vi 3, .unset, .unset, .unset, .unset, .unset, .unset] [(.int p1)])) rfl (hb hby at_6) _ ?_
 refine t_iand 9 (r := (own_ch p1)) X0.here hx hby at_8 (Eq.refl (own_ch p1)) rfl ?_
 refine t_i2c 10 (r := (own_ch p1)) X0.here hx hby at_9 (own_c2d (own_m16a p1) (own_m16b p1)) rfl ?_
 refine t_istore (pc' := 12) (L' := #[vi p0, vi p1, vi p2, vi p3, vi 3, vi ((own_ch p1)), .unset, .unset, .unset, .unset, .unset]) X0.here hx hby at_10 rfl rfl ?_
 refine t_iloadN 13 X0.here hx hby at_12 rfl rfl ?_
 refine t_iconst 14 (r := 2) X0.here hx hby at_13 (by decide) rfl ?_
 refine t_iushr 15 X0.here hx hby at_14 rfl rfl ?_
 refine t_iconst 16 (r := 1) X0.here hx hby at_15 (by decide) rfl ?_
 refine t_iand 17 (r := 1) X0.here hx hby at_16 hbit rfl ?_
 refine t_ifNo 20 X0.here hx hby at_17 (by decide) rfl ?_
 refine t_bipush 22 (r := 8) X0.here hx hby at_20 (by decide) rfl ?_
 refine st1 _ ?_
 refine t_dup 25 X1.here hx hby at_24 rfl rfl ?_
 refine t_iconst 26 (r := 0) X1.here hx hby at_25 (by decide) rfl ?_
 refine t_bipush 28 (r := 68) X1.here hx hby at_26 (by decide) rfl ?_
 refine st2 _ ?_
 refine t_dup 30 X2.here hx hby at_29 rfl rfl ?_
 refine t_iconst 31 (r := 1) X2.here hx hby at_30 (by decide) rfl ?_
 refine t_bipush 33 (r := 100) X2.here hx hby at_31 (by decide) rfl ?_
 refine st4 _ ?_
 refine t_dup 35 X4.here hx hby at_34 rfl rfl ?_
 refine t_iconst 36 (r := 2) X4.here hx hby at_35 (by decide) rfl ?_
 refine t_bipush 38 (r := 77) X4.here hx hby at_36 (by decide) rfl ?_
 refine st6 _ ?_
 refine t_dup 40 X6.here hx hby at_39 rfl rfl ?_
 refine t_iconst 41 (r := 3) X6.here hx hby at_40 (by decide) rfl ?_
 refine t_bipush 43 (r := 109) X6.here hx hby at_41 (by decide) rfl ?_
 refine st7 _ ?_
 refine t_dup 45 X7.here hx hby at_44 rfl rfl ?_
 refine t_iconst 46 (r := 4) X7.here hx hby at_45 (by decide) rfl ?_
 refine t_bipush 48 (r := 89) X7.here hx hby at_46 (by decide) rfl ?_
 refine st9 _ ?_
 refine t_dup 50 X9.here hx hby at_49 rfl rfl ?_
 refine t_iconst 51 (r := 5) X9.here hx hby at_50 (by decide) rfl ?_
 refine t_bipush 53 (r := 121) X9.here hx hby at_51 (by decide) rfl ?_
 refine st10 _ ?_
 refine t_dup 55 X10.here hx hby at_54 rfl rfl ?_
 refine t_bipush 57 (r := 6) X10.here hx hby at_55 (by decide) rfl ?_
 refine t_bipush 59 (r := 69) X10.here hx hby at_57 (by decide) rfl ?_
 refine st12 _ ?_
 refine t_dup 61 X12.here hx hby at_60 rfl rfl ?_
 refine t_bipush 63 (r := 7) X12.here hx hby at_61 (by decide) rfl ?_
 refine t_bipush 65 (r := 78) X12.here hx hby at_63 (by decide) rfl ?_
 refine st13 _ ?_
 refine t_astore (pc' := 68) (L' := #[vi p0, vi p1, vi p2, vi p3, vi 3, vi ((own_ch p1)), vr b1, .unset, .unset, .unset, .unset]) X13.here hx hby at_66 rfl rfl rfl ?_
 refine t_aload 70 X13.here hx hby at_68 rfl rfl rfl ?_
 refine t_iloadN 71 X13.here hx hby at_70 rfl rfl ?_
 refine X13.ldcInt hx hown (mvT hZ (w57 hw)) (g := (mkF m 71 #[vi p0, vi p1, vi p2, vi p3, vi 3, vi ((own_ch p1)), vr b1, .unset, .unset, .unset, .unset] [(.int p1), (.ref b1)])) rfl (hb hby at_71) _ ?_
 refine t_iand 74 X13.here hx hby at_73 rfl rfl ?_
 refine t_bipush 76 (r := 8) X13.here hx hby at_74 (by decide) rfl ?_
 refine t_irem 77 X13.here hx hby at_76 (by decide) rfl rfl ?_
 refine own_aldC (pc' := 78) X13 hx hZ e13 V13 (j := ((p1 &&& (2147483647 : Int32)) - ((p1 &&& (2147483647 : Int32)) / (8 : Int32)) * (8 : Int32))) (v := (.int (own_let p1))) (own_letb p1) (own_letv p1) (hb hby at_77) rfl ?_
 refine t_istore (pc' := 80) (L' := #[vi p0, vi p1, vi p2, vi p3, vi 3, vi ((own_let p1)), vr b1, .unset, .unset, .unset, .unset]) X13.here hx hby at_78 rfl rfl ?_
 refine t_iloadN 81 X13.here hx hby at_80 rfl rfl ?_
 refine X13.ldcInt hx hown (mvT hZ (w0 hw)) (g := (mkF m 81 #[vi p0, vi p1, vi p2, vi p3, vi 3, vi ((own_let p1)), vr b1, .unset, .unset, .unset, .unset] [(.int p2)])) rfl (hb hby at_81) _ ?_
 refine t_iand 84 (r := (own_ch p2)) X13.here hx hby at_83 (Eq.refl (own_ch p2)) rfl ?_
 refine t_i2c 85 (r := (own_ch p2)) X13.here hx hby at_84 (own_c2d (own_m16a p2) (own_m16b p2)) rfl ?_
 refine t_istore (pc' := 87) (L' := #[vi p0, vi p1, vi p2, vi p3, vi 3, vi ((own_let p1)), vi ((own_ch p2)), .unset, .unset, .unset, .unset]) X13.here hx hby at_85 rfl rfl ?_
 refine t_iloadN 88 X13.here hx hby at_87 rfl rfl ?_
 refine X13.ldcInt hx hown (mvT hZ (w0 hw)) (g := (mkF m 88 #[vi p0, vi p1, vi p2, vi p3, vi 3, vi ((own_let p1)), vi ((own_ch p2)), .unset, .unset, .unset, .unset] [(.int p3)])) rfl (hb hby at_88) _ ?_
 refine t_iand 91 (r := (own_ch p3)) X13.here hx hby at_90 (Eq.refl (own_ch p3)) rfl ?_
 refine t_i2c 92 (r := (own_ch p3)) X13.here hx hby at_91 (own_c2d (own_m16a p3) (own_m16b p3)) rfl ?_
 refine t_istore (pc' := 94) (L' := #[vi p0, vi p1, vi p2, vi p3, vi 3, vi ((own_let p1)), vi ((own_ch p2)), vi ((own_ch p3)), .unset, .unset, .unset]) X13.here hx hby at_92 rfl rfl ?_
 refine t_iload 96 X13.here hx hby at_94 rfl rfl ?_
 refine t_iload 98 X13.here hx hby at_96 rfl rfl ?_
 refine t_iload 100 X13.here hx hby at_98 rfl rfl ?_
 refine t_iload 102 X13.here hx hby at_100 rfl rfl ?_
 refine st15 _ ?_
 refine t_astore (pc' := 107) (L' := #[vi p0, vi p1, vi p2, vi p3, vi 3, vi ((own_let p1)), vi ((own_ch p2)), vi ((own_ch p3)), vr b4_15, .unset, .unset]) X15.here hx hby at_105 rfl rfl rfl ?_
 refine t_aload 109 X15.here hx hby at_107 rfl rfl rfl ?_
 refine st19 _ ?_
 refine t_astore (pc' := 114) (L' := #[vi p0, vi p1, vi p2, vi p3, vi 3, vi ((own_let p1)), vi ((own_ch p2)), vi ((own_ch p3)), vr b4_15, vr st_EMPTY, .unset]) X19.here hx hby at_112 rfl rfl rfl ?_
 refine t_iload 116 X19.here hx hby at_114 rfl rfl ?_
 refine t_iload 118 X19.here hx hby at_116 rfl rfl ?_
 refine st21 _ ?_
 refine t_astore (pc' := 123) (L' := #[vi p0, vi p1, vi p2, vi p3, vi 3, vi ((own_let p1)), vi ((own_ch p2)), vi ((own_ch p3)), vr b4_15, vr st_EMPTY, .val .null]) X21.here hx hby at_121 rfl rfl rfl ?_
 refine t_aload 125 X21.here hx hby at_123 rfl rfl rfl ?_
 refine t_ifnonnullNo 128 X21.here hx hby at_125 rfl ?_
 refine t_aload 130 X21.here hx hby at_128 rfl rfl rfl ?_
 refine st22 _ ?_
 refine t_ifNo 136 X22.here hx hby at_133 (by decide) rfl ?_
 refine t_iconst 137 (r := 1) X22.here hx hby at_136 (by decide) rfl ?_
 refine t_goto (pc := 137) 141 X22.here hx hby at_137 (by decide) (by decide) ?_
 exact retN X22 hx (t := .boolean) hret (by simp) (hb hby at_141) hr
theorem law_b3_s (l : Launch) (Z : State) (a0 : Array Value) (hw : HW Z a0) (ws : List Jvm.Cond) (p0 p1 p2 p3 cs : Int32) (fm : Value) (st_EMPTY st_DAYS st_MONTHS st_YEARS : Addr) (h0 : Heap) (n0 : Nat) (Z0 : n0 ≤ h0.size) (hbb : ¬ ((255 : Int32) < (own_ch p2))) (hcc : ¬ ((255 : Int32) < (own_ch p3))) (hcs : ¬ (cs = (0 : Int32))) (hln : (p0 &&& (3 : Int32)) = (3 : Int32)) (hbit : (((p0.toUInt32 >>> ((2 : Int32) &&& 31).toUInt32).toInt32) &&& (1 : Int32)) = (1 : Int32)) (sCS : SCS Z cs) (O0 : Old Z n0 h0) (S_EMPTY : Sa4 Z (.ref st_EMPTY)) (E_st_EMPTY : Ex1 Z h0 st_EMPTY) (F_st_EMPTY_value : Fd2 Z h0 st_EMPTY .null) :
    LawM l Z ws p0 p1 p2 p3 h0 n0 := by
 refine own_bodyH (k := 4) (n := 18) (y := x) (Q := fun v _ L => Q_law n0 v L) (own_EW hw) (plainFor_of_name pn_PaymentFrequencyUnitOfPinLaw855) (ef_law p0 p1 p2 p3) (by decide) (by decide) ?_
 intro p e s m below meth c s₁ hx hby hml hown hnm hret hZ e0 hS0 hk0 X0 hC0 hSF0
 have N0 := Fr.nil n0
 obtain ⟨T1, h1, k1, X1, e1, E1, A1, st1⟩ := newP (aty := .char) X0 hx hZ (w8 hw) e0 (g := (mkF m 22 #[vi p0, vi p1, vi p2, vi p3, vi 3, vi ((own_ch p1)), .unset, .unset, .unset, .unset, .unset] [(.int 8)])) rfl (hb hby at_22) rfl (by decide) (cap := 8) (by decide) (by decide) (by decide) (by decide)
 obtain ⟨b1, g1⟩ : ∃ z, z = h0.size := ⟨_, rfl⟩
 rw [← g1] at A1 st1
 have ge_b1 : h0.size ≤ b1 := Nat.le_of_eq g1.symm
 have K1 := KL.ofE E1
 have Ck0 := own_chK K1 na0 (CHr.refl hC0).1
 have Ah1 := (CHr.refl hC0).trans Ck0.1
 have V1 : Arv Z h1 b1 k1 .char 8 [z0, z0, z0, z0, z0, z0, z0, z0] z0 := (Arv.new A1 (by decide)).pad (pad_rep [] z0 8)
 obtain ⟨T2, h2, X2, e2, W2, V2, st2⟩ := own_astC X1 hx hZ e1 V1 (j := 0) (by decide) 0 rfl (Nat.le_of_ble_eq_true rfl) (g := (mkF m 28 #[vi p0, vi p1, vi p2, vi p3, vi 3, vi ((own_ch p1)), .unset, .unset, .unset, .unset, .unset] [(.int 68), z0, (.ref b1), (.ref b1)])) rfl rfl (hb hby at_28)
 rw [show (nar .char 68) = (68 : Int32) from by decide] at V2
 have gg3 := Nat.le_trans Z0 ge_b1
 have K2 := KL.ofW W2
 have Ck1 := own_chK K2 (naF (Ck0.2 _ (Safe.new ge_b1)) na0) Ah1.1
 have Ah2 := Ah1.trans Ck1.1
 replace V2 : Arv Z h2 b1 k1 .char 8 [(.int 68), z0, z0, z0, z0, z0, z0, z0] z0 := V2
 have N2 := Fr.snoc X2 N0 gg3
 obtain ⟨T4, h4, X4, e4, W4, V4, st4⟩ := own_astC X2 hx hZ e2 V2 (j := 1) (by decide) 1 rfl (Nat.le_of_ble_eq_true rfl) (g := (mkF m 33 #[vi p0, vi p1, vi p2, vi p3, vi 3, vi ((own_ch p1)), .unset, .unset, .unset, .unset, .unset] [(.int 100), (.int 1), (.ref b1), (.ref b1)])) rfl rfl (hb hby at_33)
 rw [show (nar .char 100) = (100 : Int32) from by decide] at V4
 have K4 := KL.ofW W4
 have sf5 := (Ck1.2 _ (Ck0.2 _ (Safe.new ge_b1)))
 have Ck2 := own_chK K4 (naF sf5 na0) Ah2.1
 have Ah3 := Ah2.trans Ck2.1
 replace V4 : Arv Z h4 b1 k1 .char 8 [(.int 68), (.int 100), z0, z0, z0, z0, z0, z0] z0 := V4
 have N4 := Fr.snoc X4 N2 gg3
 obtain ⟨T6, h6, X6, e6, W6, V6, st6⟩ := own_astC X4 hx hZ e4 V4 (j := 2) (by decide) 2 rfl (Nat.le_of_ble_eq_true rfl) (g := (mkF m 38 #[vi p0, vi p1, vi p2, vi p3, vi 3, vi ((own_ch p1)), .unset, .unset, .unset, .unset, .unset] [(.int 77), (.int 2), (.ref b1), (.ref b1)])) rfl rfl (hb hby at_38)
 rw [show (nar .char 77) = (77 : Int32) from by decide] at V6
 have K6 := KL.ofW W6
 have Ck3 := own_chK K6 (naF (Ck2.2 _ sf5) na0) Ah3.1
 have Ah4 := Ah3.trans Ck3.1
 replace V6 : Arv Z h6 b1 k1 .char 8 [(.int 68), (.int 100), (.int 77), z0, z0, z0, z0, z0] z0 := V6
 have N6 := Fr.snoc X6 N4 gg3
 obtain ⟨T7, h7, X7, e7, W7, V7, st7⟩ := own_astC X6 hx hZ e6 V6 (j := 3) (by decide) 3 rfl (Nat.le_of_ble_eq_true rfl) (g := (mkF m 43 #[vi p0, vi p1, vi p2, vi p3, vi 3, vi ((own_ch p1)), .unset, .unset, .unset, .unset, .unset] [(.int 109), (.int 3), (.ref b1), (.ref b1)])) rfl rfl (hb hby at_43)
 rw [show (nar .char 109) = (109 : Int32) from by decide] at V7
 have K7 := KL.ofW W7
 have sf8 := (Ck3.2 _ (Ck2.2 _ sf5))
 have Ck4 := own_chK K7 (naF sf8 na0) Ah4.1
 have Ah5 := Ah4.trans Ck4.1
 replace V7 : Arv Z h7 b1 k1 .char 8 [(.int 68), (.int 100), (.int 77), (.int 109), z0, z0, z0, z0] z0 := V7
 have N7 := Fr.snoc X7 N6 gg3
 obtain ⟨T9, h9, X9, e9, W9, V9, st9⟩ := own_astC X7 hx hZ e7 V7 (j := 4) (by decide) 4 rfl (Nat.le_of_ble_eq_true rfl) (g := (mkF m 48 #[vi p0, vi p1, vi p2, vi p3, vi 3, vi ((own_ch p1)), .unset, .unset, .unset, .unset, .unset] [(.int 89), (.int 4), (.ref b1), (.ref b1)])) rfl rfl (hb hby at_48)
 rw [show (nar .char 89) = (89 : Int32) from by decide] at V9
 have K9 := KL.ofW W9
 have Ck5 := own_chK K9 (naF (Ck4.2 _ sf8) na0) Ah5.1
 have Ah6 := Ah5.trans Ck5.1
 replace V9 : Arv Z h9 b1 k1 .char 8 [(.int 68), (.int 100), (.int 77), (.int 109), (.int 89), z0, z0, z0] z0 := V9
 have N9 := Fr.snoc X9 N7 gg3
 obtain ⟨T10, h10, X10, e10, W10, V10, st10⟩ := own_astC X9 hx hZ e9 V9 (j := 5) (by decide) 5 rfl (Nat.le_of_ble_eq_true rfl) (g := (mkF m 53 #[vi p0, vi p1, vi p2, vi p3, vi 3, vi ((own_ch p1)), .unset, .unset, .unset, .unset, .unset] [(.int 121), (.int 5), (.ref b1), (.ref b1)])) rfl rfl (hb hby at_53)
 rw [show (nar .char 121) = (121 : Int32) from by decide] at V10
 have K10 := KL.ofW W10
 have sf11 := (Ck5.2 _ (Ck4.2 _ sf8))
 have Ck6 := own_chK K10 (naF sf11 na0) Ah6.1
 have Ah7 := Ah6.trans Ck6.1
 replace V10 : Arv Z h10 b1 k1 .char 8 [(.int 68), (.int 100), (.int 77), (.int 109), (.int 89), (.int 121), z0, z0] z0 := V10
 have N10 := Fr.snoc X10 N9 gg3
 obtain ⟨T12, h12, X12, e12, W12, V12, st12⟩ := own_astC X10 hx hZ e10 V10 (j := 6) (by decide) 6 rfl (Nat.le_of_ble_eq_true rfl) (g := (mkF m 59 #[vi p0, vi p1, vi p2, vi p3, vi 3, vi ((own_ch p1)), .unset, .unset, .unset, .unset, .unset] [(.int 69), (.int 6), (.ref b1), (.ref b1)])) rfl rfl (hb hby at_59)
 rw [show (nar .char 69) = (69 : Int32) from by decide] at V12
 have K12 := KL.ofW W12
 have Ck7 := own_chK K12 (naF (Ck6.2 _ sf11) na0) Ah7.1
 have Ah8 := Ah7.trans Ck7.1
 replace V12 : Arv Z h12 b1 k1 .char 8 [(.int 68), (.int 100), (.int 77), (.int 109), (.int 89), (.int 121), (.int 69), z0] z0 := V12
 have N12 := Fr.snoc X12 N10 gg3
 obtain ⟨T13, h13, X13, e13, W13, V13, st13⟩ := own_astC X12 hx hZ e12 V12 (j := 7) (by decide) 7 rfl (Nat.le_of_ble_eq_true rfl) (g := (mkF m 65 #[vi p0, vi p1, vi p2, vi p3, vi 3, vi ((own_ch p1)), .unset, .unset, .unset, .unset, .unset] [(.int 78), (.int 7), (.ref b1), (.ref b1)])) rfl rfl (hb hby at_65)
 rw [show (nar .char 78) = (78 : Int32) from by decide] at V13
 have K13 := KL.ofW W13
 have sf14 := (Ck7.2 _ (Ck6.2 _ sf11))
 have Ck8 := own_chK K13 (naF sf14 na0) Ah8.1
 have Ah9 := Ah8.trans Ck8.1
 replace V13 : Arv Z h13 b1 k1 .char 8 [(.int 68), (.int 100), (.int 77), (.int 109), (.int 89), (.int 121), (.int 69), (.int 78)] z0 := V13
 have N13 := Fr.snoc X13 N12 gg3
 have f16 := (kOld K13 (kOld K12 (kOld K10 (kOld K9 (kOld K7 (kOld K6 (kOld K4 (kOld K2 (kOld K1 O0 na0) (naG gg3 na0)) (naG gg3 na0)) (naG gg3 na0)) (naG gg3 na0)) (naG gg3 na0)) (naG gg3 na0)) (naG gg3 na0)) (naG gg3 na0))
 have sz_0_2 := (Nat.le_trans K1.1 K2.1)
 have sz_0_3 := (Nat.le_trans sz_0_2 K4.1)
 have sz_0_4 := (Nat.le_trans sz_0_3 K6.1)
 have sz_0_5 := (Nat.le_trans sz_0_4 K7.1)
 have sz_0_6 := (Nat.le_trans sz_0_5 K9.1)
 have sz_0_7 := (Nat.le_trans sz_0_6 K10.1)
 have sz_0_8 := (Nat.le_trans sz_0_7 K12.1)
 have sz_0_9 := (Nat.le_trans sz_0_8 K13.1)
 obtain ⟨_, T15, L15, X15, hQ15, st15⟩ := own_static X13 hx hZ hown (w1 hw) (w2 hw) (w3 hw) (w4 hw) (by decide) (r97_make l Z a0 hw [] (own_let p1) (own_ch p2) (own_ch p3) cs h13 n0 (Nat.le_trans Z0 sz_0_9) (own_leta p1) (own_letc p1) (own_m16a p2) (own_m16b p2) (own_m16a p3) (own_m16b p3) sCS f16 hcs (own_letd p1) hbb hcc) e13 (W := 0) (by decide) (g := (mkF m 102 #[vi p0, vi p1, vi p2, vi p3, vi 3, vi ((own_let p1)), vi ((own_ch p2)), vi ((own_ch p3)), .unset, .unset, .unset] [(.int (own_ch p3)), (.int (own_ch p2)), (.int (own_let p1)), (.int 3)])) rfl hml.symm (argsL := [(.int 3), (.int (own_let p1)), (.int (own_ch p2)), (.int (own_ch p3))]) (rest := []) (lenOf pd_11 rfl) rfl rfl (own_wr rfl rfl) (hb hby at_102)
 obtain ⟨b4_15, b1_7_5_11_15, k1_7_5_11_15, rfl, N15q, K15, Q15_0, Q15_1, Q15_2, Q15_3, Q15_4, Q15_5, Q15_6⟩ := hQ15
 have N15 := Fr.app N13 N15q
 have Ck9 := own_chK K15 na0 Ah9.1
 have Ah10 := Ah9.trans Ck9.1
 have f20 := (kOld K15 f16 na0)
 have sz_0_10 := (Nat.le_trans sz_0_9 K15.1)
 obtain ⟨_, T19, L19, X19, hQ19, st19⟩ := own_static X15 hx hZ hown (w27 hw) (w28 hw) (w29 hw) (w30 hw) (by decide) (r103_unitOf l Z a0 hw [] b4_15 b1_7_5_11_15 ((own_let p1).toInt8.toInt32) ((own_ch p2).toInt8.toInt32) ((own_ch p3).toInt8.toInt32) k1_7_5_11_15 cs st_EMPTY T15.heap n0 (Nat.le_trans Z0 sz_0_10) Q15_3 Q15_4 Q15_6 sCS Q15_5 f20 hcs S_EMPTY) rfl (W := 0) (by decide) (g := (mkF m 109 #[vi p0, vi p1, vi p2, vi p3, vi 3, vi ((own_let p1)), vi ((own_ch p2)), vi ((own_ch p3)), vr b4_15, .unset, .unset] [(.ref b4_15)])) rfl hml.symm (argsL := [(.ref b4_15)]) (rest := []) (lenOf pd_12 rfl) rfl rfl (own_wr rfl rfl) (hb hby at_109)
 obtain ⟨rfl, N19q, e19⟩ := hQ19
 have N19 := Fr.app N15 N19q
 obtain ⟨_, T21, L21, X21, hQ21, st21⟩ := own_static X19 hx hZ hown (w47 hw) (w48 hw) (w3 hw) (w49 hw) (by decide) (r70_expected l Z a0 hw [] (own_let p1) T15.heap n0 (Nat.le_trans Z0 sz_0_10)) e19 (W := 0) (by decide) (g := (mkF m 118 #[vi p0, vi p1, vi p2, vi p3, vi 3, vi ((own_let p1)), vi ((own_ch p2)), vi ((own_ch p3)), vr b4_15, vr st_EMPTY, .unset] [(.int (own_let p1)), (.int 3)])) rfl hml.symm (argsL := [(.int 3), (.int (own_let p1))]) (rest := []) (lenOf pd_13 rfl) rfl rfl (own_wr rfl rfl) (hb hby at_118)
 obtain ⟨rfl, N21q, e21⟩ := hQ21
 have N21 := Fr.app N19 N21q
 have lt_st_EMPTY : st_EMPTY < h0.size := Exa.lt E_st_EMPTY
 have ne23 := lt_ne lt_st_EMPTY ge_b1
 have f24 := (kFld K15 (kFld K13 (kFld K12 (kFld K10 (kFld K9 (kFld K7 (kFld K6 (kFld K4 (kFld K2 (kFld K1 F_st_EMPTY_value nw0) (nwL ne23 nw0)) (nwL ne23 nw0)) (nwL ne23 nw0)) (nwL ne23 nw0)) (nwL ne23 nw0)) (nwL ne23 nw0)) (nwL ne23 nw0)) (nwL ne23 nw0)) nw0)
 have f25 := (kExa K15 (kExa K13 (kExa K12 (kExa K10 (kExa K9 (kExa K7 (kExa K6 (kExa K4 (kExa K2 (kExa K1 E_st_EMPTY))))))))))
 obtain ⟨_, T22, L22, X22, hQ22, st22⟩ := own_virtual X21 hx hZ hown (w50 hw) (w51 hw) (nfS hZ (w53 hw)) (w53 hw) (w52 hw) (w44 hw) (w54 hw) (by decide) (r15_isPresent l Z a0 hw [] st_EMPTY T15.heap n0 (Nat.le_trans Z0 sz_0_10) f24) e21 f25 (W := 0) (by decide) (g := (mkF m 130 #[vi p0, vi p1, vi p2, vi p3, vi 3, vi ((own_let p1)), vi ((own_ch p2)), vi ((own_ch p3)), vr b4_15, vr st_EMPTY, .val .null] [(.ref st_EMPTY)])) rfl hml.symm (argsL := []) (rest := []) (lenOf pd_3 rfl) rfl rfl (own_wr rfl rfl) (hb hby at_130)
 obtain ⟨rfl, N22q, e22⟩ := hQ22
 have N22 := Fr.app N21 N22q
 refine ⟨T22, _, some (.int 1), _, _, X22, hS0, (by rw [e22]; exact (Nat.le_trans hk0 sz_0_10)), (fun h => by cases h <;> rfl), ?_, (by rw [e22]; exact Ah10), hZ, fun fs hr => ?_⟩
 · show Q_law n0 _ _
   exact ⟨rfl, N22⟩
 refine t_iloadN 1 X0.here hx hby at_0 rfl rfl ?_
 refine t_iconst 2 (r := 3) X0.here hx hby at_1 (by decide) rfl ?_
 refine t_iand 3 (r := 3) X0.here hx hby at_2 hln rfl ?_
 refine t_istore (pc' := 5) (L' := #[vi p0, vi p1, vi p2, vi p3, vi 3, .unset, .unset, .unset, .unset, .unset, .unset]) X0.here hx hby at_3 rfl rfl ?_
 refine t_iloadN 6 X0.here hx hby at_5 rfl rfl ?_
 refine X0.ldcInt hx hown (mvT hZ (w0 hw)) (g := (mkF m 6 #[vi p0, vi p1, vi p2, vi p3, vi 3, .unset, .unset, .unset, .unset, .unset, .unset] [(.int p1)])) rfl (hb hby at_6) _ ?_
 refine t_iand 9 (r := (own_ch p1)) X0.here hx hby at_8 (Eq.refl (own_ch p1)) rfl ?_
 refine t_i2c 10 (r := (own_ch p1)) X0.here hx hby at_9 (own_c2d (own_m16a p1) (own_m16b p1)) rfl ?_
 refine t_istore (pc' := 12) (L' := #[vi p0, vi p1, vi p2, vi p3, vi 3, vi ((own_ch p1)), .unset, .unset, .unset, .unset, .unset]) X0.here hx hby at_10 rfl rfl ?_
 refine t_iloadN 13 X0.here hx hby at_12 rfl rfl ?_
 refine t_iconst 14 (r := 2) X0.here hx hby at_13 (by decide) rfl ?_
 refine t_iushr 15 X0.here hx hby at_14 rfl rfl ?_
 refine t_iconst 16 (r := 1) X0.here hx hby at_15 (by decide) rfl ?_
 refine t_iand 17 (r := 1) X0.here hx hby at_16 hbit rfl ?_
 refine t_ifNo 20 X0.here hx hby at_17 (by decide) rfl ?_
 refine t_bipush 22 (r := 8) X0.here hx hby at_20 (by decide) rfl ?_
 refine st1 _ ?_
 refine t_dup 25 X1.here hx hby at_24 rfl rfl ?_
 refine t_iconst 26 (r := 0) X1.here hx hby at_25 (by decide) rfl ?_
 refine t_bipush 28 (r := 68) X1.here hx hby at_26 (by decide) rfl ?_
 refine st2 _ ?_
 refine t_dup 30 X2.here hx hby at_29 rfl rfl ?_
 refine t_iconst 31 (r := 1) X2.here hx hby at_30 (by decide) rfl ?_
 refine t_bipush 33 (r := 100) X2.here hx hby at_31 (by decide) rfl ?_
 refine st4 _ ?_
 refine t_dup 35 X4.here hx hby at_34 rfl rfl ?_
 refine t_iconst 36 (r := 2) X4.here hx hby at_35 (by decide) rfl ?_
 refine t_bipush 38 (r := 77) X4.here hx hby at_36 (by decide) rfl ?_
 refine st6 _ ?_
 refine t_dup 40 X6.here hx hby at_39 rfl rfl ?_
 refine t_iconst 41 (r := 3) X6.here hx hby at_40 (by decide) rfl ?_
 refine t_bipush 43 (r := 109) X6.here hx hby at_41 (by decide) rfl ?_
 refine st7 _ ?_
 refine t_dup 45 X7.here hx hby at_44 rfl rfl ?_
 refine t_iconst 46 (r := 4) X7.here hx hby at_45 (by decide) rfl ?_
 refine t_bipush 48 (r := 89) X7.here hx hby at_46 (by decide) rfl ?_
 refine st9 _ ?_
 refine t_dup 50 X9.here hx hby at_49 rfl rfl ?_
 refine t_iconst 51 (r := 5) X9.here hx hby at_50 (by decide) rfl ?_
 refine t_bipush 53 (r := 121) X9.here hx hby at_51 (by decide) rfl ?_
 refine st10 _ ?_
 refine t_dup 55 X10.here hx hby at_54 rfl rfl ?_
 refine t_bipush 57 (r := 6) X10.here hx hby at_55 (by decide) rfl ?_
 refine t_bipush 59 (r := 69) X10.here hx hby at_57 (by decide) rfl ?_
 refine st12 _ ?_
 refine t_dup 61 X12.here hx hby at_60 rfl rfl ?_
 refine t_bipush 63 (r := 7) X12.here hx hby at_61 (by decide) rfl ?_
 refine t_bipush 65 (r := 78) X12.here hx hby at_63 (by decide) rfl ?_
 refine st13 _ ?_
 refine t_astore (pc' := 68) (L' := #[vi p0, vi p1, vi p2, vi p3, vi 3, vi ((own_ch p1)), vr b1, .unset, .unset, .unset, .unset]) X13.here hx hby at_66 rfl rfl rfl ?_
 refine t_aload 70 X13.here hx hby at_68 rfl rfl rfl ?_
 refine t_iloadN 71 X13.here hx hby at_70 rfl rfl ?_
 refine X13.ldcInt hx hown (mvT hZ (w57 hw)) (g := (mkF m 71 #[vi p0, vi p1, vi p2, vi p3, vi 3, vi ((own_ch p1)), vr b1, .unset, .unset, .unset, .unset] [(.int p1), (.ref b1)])) rfl (hb hby at_71) _ ?_
 refine t_iand 74 X13.here hx hby at_73 rfl rfl ?_
 refine t_bipush 76 (r := 8) X13.here hx hby at_74 (by decide) rfl ?_
 refine t_irem 77 X13.here hx hby at_76 (by decide) rfl rfl ?_
 refine own_aldC (pc' := 78) X13 hx hZ e13 V13 (j := ((p1 &&& (2147483647 : Int32)) - ((p1 &&& (2147483647 : Int32)) / (8 : Int32)) * (8 : Int32))) (v := (.int (own_let p1))) (own_letb p1) (own_letv p1) (hb hby at_77) rfl ?_
 refine t_istore (pc' := 80) (L' := #[vi p0, vi p1, vi p2, vi p3, vi 3, vi ((own_let p1)), vr b1, .unset, .unset, .unset, .unset]) X13.here hx hby at_78 rfl rfl ?_
 refine t_iloadN 81 X13.here hx hby at_80 rfl rfl ?_
 refine X13.ldcInt hx hown (mvT hZ (w0 hw)) (g := (mkF m 81 #[vi p0, vi p1, vi p2, vi p3, vi 3, vi ((own_let p1)), vr b1, .unset, .unset, .unset, .unset] [(.int p2)])) rfl (hb hby at_81) _ ?_
 refine t_iand 84 (r := (own_ch p2)) X13.here hx hby at_83 (Eq.refl (own_ch p2)) rfl ?_
 refine t_i2c 85 (r := (own_ch p2)) X13.here hx hby at_84 (own_c2d (own_m16a p2) (own_m16b p2)) rfl ?_
 refine t_istore (pc' := 87) (L' := #[vi p0, vi p1, vi p2, vi p3, vi 3, vi ((own_let p1)), vi ((own_ch p2)), .unset, .unset, .unset, .unset]) X13.here hx hby at_85 rfl rfl ?_
 refine t_iloadN 88 X13.here hx hby at_87 rfl rfl ?_
 refine X13.ldcInt hx hown (mvT hZ (w0 hw)) (g := (mkF m 88 #[vi p0, vi p1, vi p2, vi p3, vi 3, vi ((own_let p1)), vi ((own_ch p2)), .unset, .unset, .unset, .unset] [(.int p3)])) rfl (hb hby at_88) _ ?_
 refine t_iand 91 (r := (own_ch p3)) X13.here hx hby at_90 (Eq.refl (own_ch p3)) rfl ?_
 refine t_i2c 92 (r := (own_ch p3)) X13.here hx hby at_91 (own_c2d (own_m16a p3) (own_m16b p3)) rfl ?_
 refine t_istore (pc' := 94) (L' := #[vi p0, vi p1, vi p2, vi p3, vi 3, vi ((own_let p1)), vi ((own_ch p2)), vi ((own_ch p3)), .unset, .unset, .unset]) X13.here hx hby at_92 rfl rfl ?_
 refine t_iload 96 X13.here hx hby at_94 rfl rfl ?_
 refine t_iload 98 X13.here hx hby at_96 rfl rfl ?_
 refine t_iload 100 X13.here hx hby at_98 rfl rfl ?_
 refine t_iload 102 X13.here hx hby at_100 rfl rfl ?_
 refine st15 _ ?_
 refine t_astore (pc' := 107) (L' := #[vi p0, vi p1, vi p2, vi p3, vi 3, vi ((own_let p1)), vi ((own_ch p2)), vi ((own_ch p3)), vr b4_15, .unset, .unset]) X15.here hx hby at_105 rfl rfl rfl ?_
 refine t_aload 109 X15.here hx hby at_107 rfl rfl rfl ?_
 refine st19 _ ?_
 refine t_astore (pc' := 114) (L' := #[vi p0, vi p1, vi p2, vi p3, vi 3, vi ((own_let p1)), vi ((own_ch p2)), vi ((own_ch p3)), vr b4_15, vr st_EMPTY, .unset]) X19.here hx hby at_112 rfl rfl rfl ?_
 refine t_iload 116 X19.here hx hby at_114 rfl rfl ?_
 refine t_iload 118 X19.here hx hby at_116 rfl rfl ?_
 refine st21 _ ?_
 refine t_astore (pc' := 123) (L' := #[vi p0, vi p1, vi p2, vi p3, vi 3, vi ((own_let p1)), vi ((own_ch p2)), vi ((own_ch p3)), vr b4_15, vr st_EMPTY, .val .null]) X21.here hx hby at_121 rfl rfl rfl ?_
 refine t_aload 125 X21.here hx hby at_123 rfl rfl rfl ?_
 refine t_ifnonnullNo 128 X21.here hx hby at_125 rfl ?_
 refine t_aload 130 X21.here hx hby at_128 rfl rfl rfl ?_
 refine st22 _ ?_
 refine t_ifNo 136 X22.here hx hby at_133 (by decide) rfl ?_
 refine t_iconst 137 (r := 1) X22.here hx hby at_136 (by decide) rfl ?_
 refine t_goto (pc := 137) 141 X22.here hx hby at_137 (by decide) (by decide) ?_
 exact retN X22 hx (t := .boolean) hret (by simp) (hb hby at_141) hr
theorem rm_law (l : Launch) (Z : State) (a0 : Array Value) (hw : HW Z a0) (ws : List Jvm.Cond) (p0 p1 p2 p3 : Int32) (h0 : Heap) (n0 : Nat) (Z0 : n0 ≤ h0.size) (cs : Int32) (fm : Value) (st_EMPTY st_DAYS st_MONTHS st_YEARS : Addr) (hcs : ¬ (cs = (0 : Int32))) (hfm : fm.isRef = true) (sCS : SCS Z cs) (S_EMPTY : Sa4 Z (.ref st_EMPTY)) (O0 : Old Z n0 h0) (E_st_EMPTY : Ex1 Z h0 st_EMPTY) (F_st_EMPTY_value : Fd2 Z h0 st_EMPTY .null) (S_SIOOBE_FORMATTER : Sa0 Z fm) (S_DAYS : Sa1 Z (.ref st_DAYS)) (S_MONTHS : Sa2 Z (.ref st_MONTHS)) (S_YEARS : Sa3 Z (.ref st_YEARS)) (S__assertionsDisabled : Sa5 Z (.int 1)) (S_HI_BYTE_SHIFT : Sa6 Z z0) (S_LO_BYTE_SHIFT : Sa7 Z (.int 8)) :
    MetFree l x (head1 (Jvm.Cond.code x code maxLocals ret :: ws) room_1) (fun a U => a = #[(.int p0), (.int p1), (.int p2), (.int p3)] ∧ Z.Warmed39 U.vm ∧ U.heap = h0 ∧ CHv Z consts_1 U.vm h0 ∧ ∀ x ∈ ([] : List Addr), Safe Z consts_1 U.vm h0 x) (fun _ _ _ _ _ => True) (fun _ U o U' => ∃ v L, o = .returned v ∧ Q_law n0 v L ∧ CHr Z consts_1 U.vm U.heap U'.vm U'.heap ∧ ReturnedEndW U o U' L 24 1152) := by
  rcases own_bit (((p0.toUInt32 >>> ((2 : Int32) &&& 31).toUInt32).toInt32)) with hbit | hbit
  · rcases own_and3 p0 with hln | hln | hln | hln
    · exact law_a0 l Z a0 hw ws p0 p1 p2 p3 cs fm st_EMPTY st_DAYS st_MONTHS st_YEARS h0 n0 Z0 hcs hln hbit sCS S_EMPTY O0 E_st_EMPTY F_st_EMPTY_value
    ·
      by_cases ha : (own_ch p1) = (68 : Int32) ∨ (own_ch p1) = (100 : Int32)
      · exact law_a1_68 l Z a0 hw ws p0 p1 p2 p3 cs fm st_EMPTY st_DAYS st_MONTHS st_YEARS h0 n0 Z0 ha hcs hfm hln hbit sCS O0 S_SIOOBE_FORMATTER S_DAYS
      ·
        obtain ⟨hn68, hn100⟩ := not_or.mp ha
        clear ha
        by_cases ha : (own_ch p1) = (77 : Int32) ∨ (own_ch p1) = (109 : Int32)
        · exact law_a1_77 l Z a0 hw ws p0 p1 p2 p3 cs fm st_EMPTY st_DAYS st_MONTHS st_YEARS h0 n0 Z0 ha hcs hfm hln hbit sCS O0 S_SIOOBE_FORMATTER S_MONTHS
        ·
          obtain ⟨hn77, hn109⟩ := not_or.mp ha
          clear ha
          by_cases ha : (own_ch p1) = (89 : Int32) ∨ (own_ch p1) = (121 : Int32)
          · exact law_a1_89 l Z a0 hw ws p0 p1 p2 p3 cs fm st_EMPTY st_DAYS st_MONTHS st_YEARS h0 n0 Z0 ha hcs hfm hln hbit sCS O0 S_SIOOBE_FORMATTER S_YEARS
          ·
            obtain ⟨hn89, hn121⟩ := not_or.mp ha
            clear ha
            by_cases ha : (255 : Int32) < (own_ch p1)
            · exact law_a1_b l Z a0 hw ws p0 p1 p2 p3 cs fm st_EMPTY st_DAYS st_MONTHS st_YEARS h0 n0 Z0 ha hcs hfm hln hbit sCS S__assertionsDisabled S_HI_BYTE_SHIFT S_LO_BYTE_SHIFT O0 S_SIOOBE_FORMATTER S_EMPTY E_st_EMPTY F_st_EMPTY_value
            · exact law_a1_s l Z a0 hw ws p0 p1 p2 p3 cs fm st_EMPTY st_DAYS st_MONTHS st_YEARS h0 n0 Z0 hn68 hn77 hn89 hn100 hn109 hn121 ha hcs hfm hln hbit sCS O0 S_SIOOBE_FORMATTER S_EMPTY E_st_EMPTY F_st_EMPTY_value
    ·
      by_cases ha : (255 : Int32) < (own_ch p1)
      · exact law_a2_a l Z a0 hw ws p0 p1 p2 p3 cs fm st_EMPTY st_DAYS st_MONTHS st_YEARS h0 n0 Z0 ha hcs hln hbit sCS S__assertionsDisabled S_HI_BYTE_SHIFT S_LO_BYTE_SHIFT O0 S_EMPTY E_st_EMPTY F_st_EMPTY_value
      ·
        by_cases hbb : (255 : Int32) < (own_ch p2)
        · exact law_a2_b l Z a0 hw ws p0 p1 p2 p3 cs fm st_EMPTY st_DAYS st_MONTHS st_YEARS h0 n0 Z0 ha hbb hcs hln hbit sCS S__assertionsDisabled S_HI_BYTE_SHIFT S_LO_BYTE_SHIFT O0 S_EMPTY E_st_EMPTY F_st_EMPTY_value
        ·
          exact law_a2_s l Z a0 hw ws p0 p1 p2 p3 cs fm st_EMPTY st_DAYS st_MONTHS st_YEARS h0 n0 Z0 ha hbb hcs hln hbit sCS O0 S_EMPTY E_st_EMPTY F_st_EMPTY_value
    ·
      by_cases ha : (255 : Int32) < (own_ch p1)
      · exact law_a3_a l Z a0 hw ws p0 p1 p2 p3 cs fm st_EMPTY st_DAYS st_MONTHS st_YEARS h0 n0 Z0 ha hcs hln hbit sCS S__assertionsDisabled S_HI_BYTE_SHIFT S_LO_BYTE_SHIFT O0 S_EMPTY E_st_EMPTY F_st_EMPTY_value
      ·
        by_cases hbb : (255 : Int32) < (own_ch p2)
        · exact law_a3_b l Z a0 hw ws p0 p1 p2 p3 cs fm st_EMPTY st_DAYS st_MONTHS st_YEARS h0 n0 Z0 ha hbb hcs hln hbit sCS S__assertionsDisabled S_HI_BYTE_SHIFT S_LO_BYTE_SHIFT O0 S_EMPTY E_st_EMPTY F_st_EMPTY_value
        ·
          by_cases hcc : (255 : Int32) < (own_ch p3)
          · exact law_a3_c l Z a0 hw ws p0 p1 p2 p3 cs fm st_EMPTY st_DAYS st_MONTHS st_YEARS h0 n0 Z0 ha hbb hcc hcs hln hbit sCS S__assertionsDisabled S_HI_BYTE_SHIFT S_LO_BYTE_SHIFT O0 S_EMPTY E_st_EMPTY F_st_EMPTY_value
          · exact law_a3_s l Z a0 hw ws p0 p1 p2 p3 cs fm st_EMPTY st_DAYS st_MONTHS st_YEARS h0 n0 Z0 ha hbb hcc hcs hln hbit sCS O0 S_EMPTY E_st_EMPTY F_st_EMPTY_value
  · rcases own_and3 p0 with hln | hln | hln | hln
    · exact law_b0 l Z a0 hw ws p0 p1 p2 p3 cs fm st_EMPTY st_DAYS st_MONTHS st_YEARS h0 n0 Z0 hcs hln hbit sCS S_EMPTY O0 E_st_EMPTY F_st_EMPTY_value
    ·
      by_cases ha : (own_let p1) = (68 : Int32) ∨ (own_let p1) = (100 : Int32)
      · exact law_b1_68 l Z a0 hw ws p0 p1 p2 p3 cs fm st_EMPTY st_DAYS st_MONTHS st_YEARS h0 n0 Z0 ha hcs hfm hln hbit sCS O0 S_SIOOBE_FORMATTER S_DAYS
      ·
        obtain ⟨hn68, hn100⟩ := not_or.mp ha
        clear ha
        by_cases ha : (own_let p1) = (77 : Int32) ∨ (own_let p1) = (109 : Int32)
        · exact law_b1_77 l Z a0 hw ws p0 p1 p2 p3 cs fm st_EMPTY st_DAYS st_MONTHS st_YEARS h0 n0 Z0 ha hcs hfm hln hbit sCS O0 S_SIOOBE_FORMATTER S_MONTHS
        ·
          obtain ⟨hn77, hn109⟩ := not_or.mp ha
          clear ha
          by_cases ha : (own_let p1) = (89 : Int32) ∨ (own_let p1) = (121 : Int32)
          · exact law_b1_89 l Z a0 hw ws p0 p1 p2 p3 cs fm st_EMPTY st_DAYS st_MONTHS st_YEARS h0 n0 Z0 ha hcs hfm hln hbit sCS O0 S_SIOOBE_FORMATTER S_YEARS
          ·
            obtain ⟨hn89, hn121⟩ := not_or.mp ha
            clear ha
            exact law_b1_s l Z a0 hw ws p0 p1 p2 p3 cs fm st_EMPTY st_DAYS st_MONTHS st_YEARS h0 n0 Z0 hn68 hn77 hn89 hn100 hn109 hn121 hcs hfm hln hbit sCS O0 S_SIOOBE_FORMATTER S_EMPTY E_st_EMPTY F_st_EMPTY_value
    ·
      by_cases hbb : (255 : Int32) < (own_ch p2)
      · exact law_b2_b l Z a0 hw ws p0 p1 p2 p3 cs fm st_EMPTY st_DAYS st_MONTHS st_YEARS h0 n0 Z0 hbb hcs hln hbit sCS S__assertionsDisabled S_HI_BYTE_SHIFT S_LO_BYTE_SHIFT O0 S_EMPTY E_st_EMPTY F_st_EMPTY_value
      ·
        exact law_b2_s l Z a0 hw ws p0 p1 p2 p3 cs fm st_EMPTY st_DAYS st_MONTHS st_YEARS h0 n0 Z0 hbb hcs hln hbit sCS O0 S_EMPTY E_st_EMPTY F_st_EMPTY_value
    ·
      by_cases hbb : (255 : Int32) < (own_ch p2)
      · exact law_b3_b l Z a0 hw ws p0 p1 p2 p3 cs fm st_EMPTY st_DAYS st_MONTHS st_YEARS h0 n0 Z0 hbb hcs hln hbit sCS S__assertionsDisabled S_HI_BYTE_SHIFT S_LO_BYTE_SHIFT O0 S_EMPTY E_st_EMPTY F_st_EMPTY_value
      ·
        by_cases hcc : (255 : Int32) < (own_ch p3)
        · exact law_b3_c l Z a0 hw ws p0 p1 p2 p3 cs fm st_EMPTY st_DAYS st_MONTHS st_YEARS h0 n0 Z0 hbb hcc hcs hln hbit sCS S__assertionsDisabled S_HI_BYTE_SHIFT S_LO_BYTE_SHIFT O0 S_EMPTY E_st_EMPTY F_st_EMPTY_value
        · exact law_b3_s l Z a0 hw ws p0 p1 p2 p3 cs fm st_EMPTY st_DAYS st_MONTHS st_YEARS h0 n0 Z0 hbb hcc hcs hln hbit sCS O0 S_EMPTY E_st_EMPTY F_st_EMPTY_value
theorem comes_1 {Post : Tables → Env → Array Value → State → Outcome → State → Prop} (hpost : ∀ tb e args s v u, (limb_1_1.after args s (.returned v) u = true ∧ limb_1_2.after args s (.returned v) u = true ∧ True) → ReturnedEndW s (.returned v) u (Jvm.fieldLocs frame_1_writes args s ++ Jvm.arrayLocs frame_1_arrays args s ++ Jvm.staticLocs frame_1_statics s) 24 1152 → Post tb e args s (.returned v) u) :
    ArmFor flags0 classFile x code maxLocals ret World_1 tables_1 room_1 Calls_1 rest_1 Pre_1 Post := by
  intro l hfl _ _ p e ha hc hk s m args below hf hA hF happ hP
  obtain ⟨hcalls, hrest, hpre⟩ := hP
  obtain ⟨-, -, -, hnamed, -, -, -, hat⟩ := (Spec.applies_iff hf).mp happ
  obtain ⟨hg, hn⟩ := and_e (Cond.before_iff.mp (show (Jvm.Cond.and given_1 narrow_1).before args s = true from hpre))
  obtain ⟨g1, g2⟩ := and_e hg
  obtain ⟨g3, g4⟩ := and_e g2
  obtain ⟨g5, g6⟩ := and_e g4
  obtain ⟨g7, g8⟩ := and_e g6
  obtain ⟨w0, w1, w2, w3, rfl⟩ : ∃ w0 w1 w2 w3 : Value, args = #[w0, w1, w2, w3] := by
    have hs : args.size = 4 := by simpa [Cond.value, given_1] using g1
    obtain ⟨L⟩ := args
    match L, hs with
    | [w0, w1, w2, w3], _ => exact ⟨w0, w1, w2, w3, rfl⟩
  have hw := fun d (hd : d ∈ tables_1) => atoms_spec (ws := Jvm.Cond.code x code maxLocals ret :: tables_1) hat d (List.mem_cons_of_mem _ hd)
  have hfit : Fit s := fun {y c} hc i hi => by
    obtain ⟨ha, rfl⟩ := Array.getElem?_eq_some_iff.mp hc
    have q := List.all_eq_true.mp ((Array.all_eq_true_iff_forall_mem.mp hF) _ (Array.getElem_mem ha)) i (List.mem_range.mpr hi)
    simpa [Array.getElem?_eq_getElem hi] using q
  obtain ⟨hsets, hown0⟩ := atoms_of _ (rest_1_c_eq ▸ (show rest_1_c.before _ s = true from hrest))
  have hr0 := Cond.before_iff.mp hown0
  obtain ⟨i0, ei0⟩ := is_v g3
  obtain rfl : w0 = (.int i0) := Option.some.inj ei0
  obtain ⟨i1, ei1⟩ := is_v g5
  obtain rfl : w1 = (.int i1) := Option.some.inj ei1
  obtain ⟨i2, ei2⟩ := is_v g7
  obtain rfl : w2 = (.int i2) := Option.some.inj ei2
  obtain ⟨i3, ei3⟩ := is_v g8
  obtain rfl : w3 = (.int i3) := Option.some.inj ei3
  obtain ⟨cs, ev_cs⟩ := is_v (Cond.before_iff.mp (hsets _ (List.mem_of_getElem? (i := 1) rfl)))
  have sCS := Sta.start ev_cs (Or.inl (hsets _ (List.mem_of_getElem? (i := 0) rfl)))
  have hcs : ¬ (cs = (0 : Int32)) := by
    have q := Cond.before_iff.mp (hsets _ (List.mem_of_getElem? (i := 2) rfl))
    simp only [Cond.value, ev_cs, Term.int_eval] at q
    simpa using q
  obtain ⟨fm, ev_fm, hfm⟩ := isR_v (Cond.before_iff.mp (hsets _ (List.mem_of_getElem? (i := 8) rfl)))
  have S_SIOOBE_FORMATTER := Sta.start ev_fm (Or.inl (hsets _ (List.mem_of_getElem? (i := 7) rfl)))
  obtain ⟨st_EMPTY, ev_EMPTY⟩ := exa_v (Cond.before_iff.mp (hsets _ (List.mem_of_getElem? (i := 11) rfl)))
  have S_EMPTY := Sta.start ev_EMPTY (Or.inl (hsets _ (List.mem_of_getElem? (i := 10) rfl)))
  obtain ⟨st_DAYS, ev_DAYS⟩ := exa_v (Cond.before_iff.mp (hsets _ (List.mem_of_getElem? (i := 34) rfl)))
  have S_DAYS := Sta.start ev_DAYS (Or.inl (hsets _ (List.mem_of_getElem? (i := 33) rfl)))
  obtain ⟨st_MONTHS, ev_MONTHS⟩ := exa_v (Cond.before_iff.mp (hsets _ (List.mem_of_getElem? (i := 43) rfl)))
  have S_MONTHS := Sta.start ev_MONTHS (Or.inl (hsets _ (List.mem_of_getElem? (i := 42) rfl)))
  obtain ⟨st_YEARS, ev_YEARS⟩ := exa_v (Cond.before_iff.mp (hsets _ (List.mem_of_getElem? (i := 25) rfl)))
  have S_YEARS := Sta.start ev_YEARS (Or.inl (hsets _ (List.mem_of_getElem? (i := 24) rfl)))
  have E_st_EMPTY := Exa.start ev_EMPTY (Cond.before_iff.mp (hsets _ (List.mem_of_getElem? (i := 11) rfl)))
  have vn_EMPTY := null_v (Cond.before_iff.mp (hsets _ (List.mem_of_getElem? (i := 12) rfl)))
  rw [fld_at ev_EMPTY] at vn_EMPTY
  have F_st_EMPTY_value := Fld.start vn_EMPTY
  have S__assertionsDisabled := Sta.start (eqv_i (Term.int_eval (1)) (Cond.before_iff.mp (hsets _ (List.mem_of_getElem? (i := 16) rfl)))) (Or.inl (hsets _ (List.mem_of_getElem? (i := 15) rfl)))
  have S_HI_BYTE_SHIFT := Sta.start (eqv_i (Term.int_eval (0)) (Cond.before_iff.mp (hsets _ (List.mem_of_getElem? (i := 19) rfl)))) (Or.inl (hsets _ (List.mem_of_getElem? (i := 18) rfl)))
  have S_LO_BYTE_SHIFT := Sta.start (eqv_i (Term.int_eval (8)) (Cond.before_iff.mp (hsets _ (List.mem_of_getElem? (i := 22) rfl)))) (Or.inl (hsets _ (List.mem_of_getElem? (i := 21) rfl)))
  have hCH : CHv s consts_1 s.vm s.heap := CHv.start (own_EW hw) (fun p hp => hcalls.1 p hp) (hsets _ (List.mem_of_getElem? (i := 2) rfl)) (own_wS hw _ (by simp [Bundle.stringAtoms])) (own_wS hw _ (by simp [Bundle.stringAtoms, Bundle.sN]))
  obtain ⟨n, o, h1, h2, h3, _, L, rfl, ⟨rfl, N⟩, -, hq⟩ := rm_law l s _ hw tables_1 i0 i1 i2 i3 s.heap s.heap.size (Nat.le_refl _) cs fm st_EMPTY st_DAYS st_MONTHS st_YEARS hcs hfm sCS S_EMPTY (Old.start s) E_st_EMPTY F_st_EMPTY_value S_SIOOBE_FORMATTER S_DAYS S_MONTHS S_YEARS S__assertionsDisabled S_HI_BYTE_SHIFT S_LO_BYTE_SHIFT p e ha hc hk s m _ below hf ((Spec.applies_iff_loose hf).mp happ).1 ⟨rfl, State.Warmed39.refl s, rfl, hCH, sf0⟩ trivial
  refine ⟨n, _, h1, h2, h3, hpost _ _ _ _ _ _ ⟨Cond.after_iff.mpr rfl, Cond.after_iff.mpr (eq_i res_at (Term.int_eval (1)) rfl), trivial⟩ ⟨hq.1, hq.2.1, hq.2.2.1, (hq.2.2.2.sift fun y hy => Or.inr (N y hy)).mono (by decide) (by decide)⟩⟩
theorem main_1_1 : Claimed_1_1 := comes_1 fun _ _ _ _ _ _ h hF => ⟨h.1, hF⟩
theorem main_1_2 : Claimed_1_2 := comes_1 fun _ _ _ _ _ _ h hF => ⟨h.2.1, hF⟩
end Jvm.Pilot.@@N@@
namespace Jvm.Pilot.@@N@@
open Jvm Jvm.ClassFile Sem Op Lib Jvm.Free Jvm.Stand Jvm.Pilot.@@N@@.Jvm.D
/-! MADE BY PROGRAM (witnessworld.py) out of the Statement's table words and the real class files: 27 classes; the members and pool entries that the words name. The judged class is class 1, her method 1. -/
namespace start1
open Jvm.ClassFile
def u (s : String) : CpInfo := .utf8 (stringToUtf16 s)
/-- a pool by its gaps: so many unusable entries, then the entry; so many at the end -/
def gap : Nat → List CpInfo → List CpInfo
  | 0, r => r
  | n + 1, r => .unusable :: gap n r
def poolList (es : List (Nat × CpInfo)) (last : Nat) : List CpInfo := es.foldr (fun e r => gap e.1 (e.2 :: r)) (gap last [])
def pool (es : List (Nat × CpInfo)) (last : Nat) : Array CpInfo := ⟨poolList es last⟩
def fileOf (pool : Array CpInfo) (this : Nat) (attrs : Array Attribute := #[]) (ms : Array MethodInfo := #[]) (fl : Nat := 33) (sup : Nat := 0) (ifs : Array Nat := #[]) (fds : Array FieldInfo := #[]) : ClassFile where
  minorVersion := 0
  majorVersion := 65
  constantPool := pool
  accessFlags := fl
  thisClass := this
  superClass := sup
  interfaces := ifs
  fields := fds
  methods := ms
  attributes := attrs
def plain (name : String) (sup : Option ClassId) : Class where
  name := name
  kind := .ordinary
  loader := none
  accessFlags := 33
  super := sup
  interfaces := #[]
  cf := none
  fields := #[]
  methods := #[]
  instanceTypes := #[]
  staticTypes := #[]
  resolved := #[]
  callSites := []
  init := .initialized
  statics := none
  mirror := none

def pool0 : Array CpInfo := pool [(5, u "<init>"), (0, u "()V"), (1, .class_ 10), (1, u "java/lang/Object")] 113

def k0c0 : Code := { maxStack := 0, maxLocals := 1, code := object_method_1_code, exceptionTable := #[], attributes := #[] }
def k0m0 : Method := { name := "<init>", desc := "()V", sig := { parameters := [], returnType := none }, accessFlags := 1, code := some k0c0 }
/-- java/lang/Object -/
def k0 : Class := { plain "java/lang/Object" none with
  accessFlags := 33
  interfaces := #[]
  cf := some (fileOf pool0 8 #[] #[{ accessFlags := 1, nameIndex := 5, descriptorIndex := 6, attributes := #[] }] 33 0 #[] #[])
  fields := #[]
  methods := #[k0m0]
  instanceTypes := #[]
  staticTypes := #[]
  resolved := Array.replicate 124 none
  statics := none }

def pool1 : Array CpInfo := pool [(2, .class_ 4), (1, u "java/lang/Object"), (0, u "<init>"), (0, u "()V"), (0, .integer 65535), (0, .integer 2147483647), (0, .methodref 10 11), (0, .class_ 12), (0, .nameAndType 13 14), (0, u "com/example/rivulet/rivulet/instrument/PaymentFrequencyUnitOfPinLaw"), (0, u "make"), (0, u "(ICCC)Ljava/lang/String;"), (0, .methodref 16 17), (0, .class_ 18), (0, .nameAndType 19 20), (0, u "com/example/rivulet/rivulet/instrument/PaymentFrequency"), (0, u "unitOf"), (0, u "(Ljava/lang/String;)Ljava/util/Optional;"), (0, .methodref 10 22), (0, .nameAndType 23 24), (0, u "expected"), (0, u "(IC)Ljava/time/temporal/ChronoUnit;"), (0, .methodref 26 27), (0, .class_ 28), (0, .nameAndType 29 30), (0, u "java/util/Optional"), (0, u "isPresent"), (0, u "()Z"), (0, .methodref 26 32), (0, .nameAndType 33 34), (0, u "get"), (0, u "()Ljava/lang/Object;"), (0, .class_ 36), (0, u "java/lang/String"), (0, .methodref 35 38), (0, .nameAndType 5 39), (0, u "([C)V"), (0, .methodref 35 41), (0, .nameAndType 42 43), (0, u "valueOf"), (0, u "(C)Ljava/lang/String;"), (0, .fieldref 45 46), (0, .class_ 47), (0, .nameAndType 48 49), (0, u "java/time/temporal/ChronoUnit"), (0, u "DAYS"), (0, u "Ljava/time/temporal/ChronoUnit;"), (0, .fieldref 45 51), (0, .nameAndType 52 49), (0, u "MONTHS"), (0, .fieldref 45 54), (0, .nameAndType 55 49), (0, u "YEARS"), (2, u "law"), (0, u "(IIII)Z")] 3

def k1m0 : Method := { name := "<init>", desc := "()V", sig := { parameters := [], returnType := none }, accessFlags := 1, code := none }
def k1c1 : Code := { maxStack := 4, maxLocals := 11, code := code, exceptionTable := #[], attributes := #[] }
def k1m1 : Method := { name := "law", desc := "(IIII)Z", sig := { parameters := [.int, .int, .int, .int], returnType := some .boolean }, accessFlags := 9, code := some k1c1 }
def k1c2 : Code := { maxStack := 6, maxLocals := 4, code := method_3_code, exceptionTable := #[], attributes := #[] }
def k1m2 : Method := { name := "make", desc := "(ICCC)Ljava/lang/String;", sig := { parameters := [.int, .char, .char, .char], returnType := some (.object "java/lang/String") }, accessFlags := 10, code := some k1c2 }
def k1c3 : Code := { maxStack := 2, maxLocals := 2, code := method_4_code, exceptionTable := #[], attributes := #[] }
def k1m3 : Method := { name := "expected", desc := "(IC)Ljava/time/temporal/ChronoUnit;", sig := { parameters := [.int, .char], returnType := some (.object "java/time/temporal/ChronoUnit") }, accessFlags := 10, code := some k1c3 }
/-- com/example/rivulet/rivulet/instrument/PaymentFrequencyUnitOfPinLaw -/
def k1 : Class := { plain "com/example/rivulet/rivulet/instrument/PaymentFrequencyUnitOfPinLaw" (some 0) with
  accessFlags := 49
  interfaces := #[]
  cf := some (fileOf pool1 10 #[] #[{ accessFlags := 1, nameIndex := 5, descriptorIndex := 6, attributes := #[] }, { accessFlags := 9, nameIndex := 58, descriptorIndex := 59, attributes := #[] }, { accessFlags := 10, nameIndex := 13, descriptorIndex := 14, attributes := #[] }, { accessFlags := 10, nameIndex := 23, descriptorIndex := 24, attributes := #[] }] 49 2 #[] #[])
  fields := #[]
  methods := #[k1m0, k1m1, k1m2, k1m3]
  instanceTypes := #[]
  staticTypes := #[]
  resolved := Array.replicate 63 none
  statics := none }

def pool2 : Array CpInfo := pool [(1, .class_ 2), (0, u "java/io/Serializable"), (0, .class_ 4), (0, u "java/lang/Object")] 2

/-- java/io/Serializable -/
def k2 : Class := { plain "java/io/Serializable" (some 0) with
  accessFlags := 1537
  interfaces := #[]
  cf := some (fileOf pool2 1 #[] #[] 1537 3 #[] #[])
  fields := #[]
  methods := #[]
  instanceTypes := #[]
  staticTypes := #[]
  resolved := Array.replicate 7 none
  statics := none }

def pool3 : Array CpInfo := pool [(1, .class_ 2), (0, u "java/lang/Comparable"), (0, .class_ 4), (0, u "java/lang/Object")] 7

/-- java/lang/Comparable -/
def k3 : Class := { plain "java/lang/Comparable" (some 0) with
  accessFlags := 1537
  interfaces := #[]
  cf := some (fileOf pool3 1 #[] #[] 1537 3 #[] #[])
  fields := #[]
  methods := #[]
  instanceTypes := #[]
  staticTypes := #[]
  resolved := Array.replicate 12 none
  statics := none }

def pool4 : Array CpInfo := pool [(2, .class_ 4), (1, u "java/lang/CharSequence"), (42, .class_ 48), (0, u "java/lang/CharSequence$1CodePointIterator"), (10, .class_ 60), (0, u "java/lang/CharSequence$1CharIterator"), (5, .class_ 67), (0, u "java/lang/Object")] 63

/-- java/lang/CharSequence -/
def k4 : Class := { plain "java/lang/CharSequence" (some 0) with
  accessFlags := 1537
  interfaces := #[]
  cf := some (fileOf pool4 2 #[.nestMembers #[47, 59]] #[] 1537 66 #[] #[])
  fields := #[]
  methods := #[]
  instanceTypes := #[]
  staticTypes := #[]
  resolved := Array.replicate 131 none
  statics := none }

def pool5 : Array CpInfo := pool [(1, .class_ 2), (0, u "java/lang/constant/Constable"), (0, .class_ 4), (0, u "java/lang/Object")] 6

/-- java/lang/constant/Constable -/
def k5 : Class := { plain "java/lang/constant/Constable" (some 0) with
  accessFlags := 1537
  interfaces := #[]
  cf := some (fileOf pool5 1 #[] #[] 1537 3 #[] #[])
  fields := #[]
  methods := #[]
  instanceTypes := #[]
  staticTypes := #[]
  resolved := Array.replicate 11 none
  statics := none }

def pool6 : Array CpInfo := pool [(1, .class_ 2), (0, u "java/lang/constant/ConstantDesc"), (0, .class_ 4), (0, u "java/lang/Object")] 32

/-- java/lang/constant/ConstantDesc -/
def k6 : Class := { plain "java/lang/constant/ConstantDesc" (some 0) with
  accessFlags := 1537
  interfaces := #[]
  cf := some (fileOf pool6 1 #[] #[] 1537 3 #[] #[])
  fields := #[]
  methods := #[]
  instanceTypes := #[]
  staticTypes := #[]
  resolved := Array.replicate 37 none
  statics := none }

def pool7 : Array CpInfo := pool [(1, .methodref 2 3), (0, .class_ 4), (0, .nameAndType 5 6), (0, u "java/lang/Object"), (0, u "<init>"), (0, u "()V"), (0, .string 8), (0, u ""), (0, .fieldref 10 11), (0, .class_ 12), (0, .nameAndType 13 14), (0, u "java/lang/String"), (0, u "value"), (0, u "[B"), (0, .fieldref 10 16), (0, .nameAndType 17 18), (0, u "coder"), (0, u "B"), (2, u "hash"), (0, u "I"), (2, u "hashIsZero"), (0, u "Z"), (0, .methodref 10 28), (0, .nameAndType 5 29), (0, u "([CIILjava/lang/Void;)V"), (8, .fieldref 10 39), (0, .nameAndType 40 26), (0, u "COMPACT_STRINGS"), (1, .class_ 44), (1, u "java/lang/StringUTF16"), (0, u "compress"), (1, .methodref 42 48), (0, .nameAndType 49 50), (0, u "coderFromArrayLen"), (0, u "([BI)B"), (2, u "toBytes"), (53, .class_ 109), (1, u "java/lang/StringLatin1"), (32, u "()Z"), (34, .methodref 42 178), (0, .nameAndType 45 179), (0, u "([CII)[B"), (29, .methodref 10 210), (0, .nameAndType 5 211), (0, u "([BB)V"), (122, u "()I"), (0, .methodref 10 336), (0, .nameAndType 17 337), (0, u "()B"), (25, u "([BI)C"), (5, u "(C)Z"), (21, u "(II)V"), (35, u "(I)C"), (64, .methodref 10 493), (0, .nameAndType 494 142), (0, u "isLatin1"), (0, .methodref 107 496), (0, .nameAndType 497 363), (0, u "charAt"), (0, .methodref 42 496), (2, u "checkIndex"), (5, u "length"), (67, .class_ 576), (0, u "java/lang/CharSequence"), (22, u "CASE_INSENSITIVE_ORDER"), (0, u "Ljava/util/Comparator;"), (181, u "valueOf"), (0, u "(C)Ljava/lang/String;"), (226, u "([C)V"), (4, .methodref 107 1016), (0, .nameAndType 1017 369), (0, u "canEncode"), (0, .methodref 107 1019), (0, .nameAndType 53 1020), (0, u "(C)[B"), (0, .methodref 42 1019), (31, .fieldref 1054 1055), (0, .class_ 1056), (0, .nameAndType 1057 1058), (0, u "jdk/internal/util/Preconditions"), (0, u "SIOOBE_FORMATTER"), (0, u "Ljava/util/function/BiFunction;"), (0, .methodref 1054 1060), (0, .nameAndType 501 1061), (0, u "(IILjava/util/function/BiFunction;)I"), (39, u "serialPersistentFields"), (0, u "[Ljava/io/ObjectStreamField;"), (0, .class_ 1104), (0, u "java/lang/String$CaseInsensitiveComparator"), (1, .class_ 1107), (0, u "java/io/Serializable"), (0, .class_ 1109), (0, u "java/lang/Comparable"), (0, .class_ 1111), (0, u "java/lang/constant/Constable"), (0, .class_ 1113), (0, u "java/lang/constant/ConstantDesc"), (2, u "serialVersionUID"), (0, u "J"), (3, u "REPL"), (0, u "C"), (2, u "LATIN1"), (1, u "UTF16")] 323

def k7m0 : Method := { name := "<init>", desc := "()V", sig := { parameters := [], returnType := none }, accessFlags := 1, code := none }
def k7c1 : Code := { maxStack := 5, maxLocals := 2, code := jdk_42_method_3_code, exceptionTable := #[], attributes := #[] }
def k7m1 : Method := { name := "<init>", desc := "([C)V", sig := { parameters := [(.array .char)], returnType := none }, accessFlags := 1, code := some k7c1 }
def k7c2 : Code := { maxStack := 2, maxLocals := 1, code := jdk_42_method_54_code, exceptionTable := #[], attributes := #[] }
def k7m2 : Method := { name := "length", desc := "()I", sig := { parameters := [], returnType := some .int }, accessFlags := 1, code := some k7c2 }
def k7c3 : Code := { maxStack := 2, maxLocals := 2, code := jdk_42_method_56_code, exceptionTable := #[], attributes := #[] }
def k7m3 : Method := { name := "charAt", desc := "(I)C", sig := { parameters := [.int], returnType := some .char }, accessFlags := 1, code := some k7c3 }
def k7c4 : Code := { maxStack := 4, maxLocals := 1, code := jdk_42_method_139_code, exceptionTable := #[], attributes := #[] }
def k7m4 : Method := { name := "valueOf", desc := "(C)Ljava/lang/String;", sig := { parameters := [.char], returnType := some (.object "java/lang/String") }, accessFlags := 9, code := some k7c4 }
def k7c5 : Code := { maxStack := 4, maxLocals := 6, code := jdk_42_method_149_code, exceptionTable := #[], attributes := #[] }
def k7m5 : Method := { name := "<init>", desc := "([CIILjava/lang/Void;)V", sig := { parameters := [(.array .char), .int, .int, (.object "java/lang/Void")], returnType := none }, accessFlags := 2, code := some k7c5 }
def k7c6 : Code := { maxStack := 2, maxLocals := 3, code := jdk_42_method_151_code, exceptionTable := #[], attributes := #[] }
def k7m6 : Method := { name := "<init>", desc := "([BB)V", sig := { parameters := [(.array .byte), .byte], returnType := none }, accessFlags := 0, code := some k7c6 }
def k7c7 : Code := { maxStack := 1, maxLocals := 1, code := jdk_42_method_152_code, exceptionTable := #[], attributes := #[] }
def k7m7 : Method := { name := "coder", desc := "()B", sig := { parameters := [], returnType := some .byte }, accessFlags := 0, code := some k7c7 }
def k7c8 : Code := { maxStack := 1, maxLocals := 1, code := jdk_42_method_154_code, exceptionTable := #[], attributes := #[] }
def k7m8 : Method := { name := "isLatin1", desc := "()Z", sig := { parameters := [], returnType := some .boolean }, accessFlags := 0, code := some k7c8 }
def k7c9 : Code := { maxStack := 3, maxLocals := 2, code := jdk_42_method_155_code, exceptionTable := #[], attributes := #[] }
def k7m9 : Method := { name := "checkIndex", desc := "(II)V", sig := { parameters := [.int, .int], returnType := none }, accessFlags := 8, code := some k7c9 }
/-- java/lang/String -/
def k7 : Class := { plain "java/lang/String" (some 0) with
  accessFlags := 49
  interfaces := #[2, 3, 4, 5, 6]
  cf := some (fileOf pool7 10 #[.nestMembers #[1103]] #[{ accessFlags := 1, nameIndex := 5, descriptorIndex := 6, attributes := #[] }, { accessFlags := 1, nameIndex := 5, descriptorIndex := 1010, attributes := #[] }, { accessFlags := 1, nameIndex := 507, descriptorIndex := 334, attributes := #[] }, { accessFlags := 1, nameIndex := 497, descriptorIndex := 427, attributes := #[] }, { accessFlags := 9, nameIndex := 782, descriptorIndex := 783, attributes := #[] }, { accessFlags := 2, nameIndex := 5, descriptorIndex := 29, attributes := #[] }, { accessFlags := 0, nameIndex := 5, descriptorIndex := 211, attributes := #[] }, { accessFlags := 0, nameIndex := 17, descriptorIndex := 337, attributes := #[] }, { accessFlags := 0, nameIndex := 494, descriptorIndex := 142, attributes := #[] }, { accessFlags := 8, nameIndex := 501, descriptorIndex := 391, attributes := #[] }] 49 2 #[1106, 1108, 575, 1110, 1112] #[{ accessFlags := 18, nameIndex := 13, descriptorIndex := 14, attributes := #[] }, { accessFlags := 18, nameIndex := 17, descriptorIndex := 18, attributes := #[] }, { accessFlags := 2, nameIndex := 21, descriptorIndex := 22, attributes := #[] }, { accessFlags := 2, nameIndex := 25, descriptorIndex := 26, attributes := #[] }, { accessFlags := 26, nameIndex := 1116, descriptorIndex := 1117, attributes := #[] }, { accessFlags := 24, nameIndex := 40, descriptorIndex := 26, attributes := #[] }, { accessFlags := 26, nameIndex := 1101, descriptorIndex := 1102, attributes := #[] }, { accessFlags := 26, nameIndex := 1121, descriptorIndex := 1122, attributes := #[] }, { accessFlags := 25, nameIndex := 599, descriptorIndex := 600, attributes := #[] }, { accessFlags := 24, nameIndex := 1125, descriptorIndex := 18, attributes := #[] }, { accessFlags := 24, nameIndex := 1127, descriptorIndex := 18, attributes := #[] }])
  fields := #[{ name := "value", type := (.array .byte), accessFlags := 18, slot := 0, constantValue := 0 }, { name := "coder", type := .byte, accessFlags := 18, slot := 1, constantValue := 0 }, { name := "hash", type := .int, accessFlags := 2, slot := 2, constantValue := 0 }, { name := "hashIsZero", type := .boolean, accessFlags := 2, slot := 3, constantValue := 0 }, { name := "serialVersionUID", type := .long, accessFlags := 26, slot := 0, constantValue := 0 }, { name := "COMPACT_STRINGS", type := .boolean, accessFlags := 24, slot := 1, constantValue := 0 }, { name := "serialPersistentFields", type := (.array (.object "java/io/ObjectStreamField")), accessFlags := 26, slot := 2, constantValue := 0 }, { name := "REPL", type := .char, accessFlags := 26, slot := 3, constantValue := 0 }, { name := "CASE_INSENSITIVE_ORDER", type := (.object "java/util/Comparator"), accessFlags := 25, slot := 4, constantValue := 0 }, { name := "LATIN1", type := .byte, accessFlags := 24, slot := 5, constantValue := 0 }, { name := "UTF16", type := .byte, accessFlags := 24, slot := 6, constantValue := 0 }]
  methods := #[k7m0, k7m1, k7m2, k7m3, k7m4, k7m5, k7m6, k7m7, k7m8, k7m9]
  instanceTypes := #[(.array .byte), .byte, .int, .boolean]
  staticTypes := #[.long, .boolean, (.array (.object "java/io/ObjectStreamField")), .char, (.object "java/util/Comparator"), .byte, .byte]
  resolved := Array.replicate 1451 none
  statics := some 0 }

def pool8 : Array CpInfo := pool [(2, .class_ 4), (1, u "java/lang/Object"), (0, u "<init>"), (0, u "()V"), (0, .class_ 8), (0, u "java/lang/Record")] 13

def k8m0 : Method := { name := "<init>", desc := "()V", sig := { parameters := [], returnType := none }, accessFlags := 4, code := none }
/-- java/lang/Record -/
def k8 : Class := { plain "java/lang/Record" (some 0) with
  accessFlags := 1057
  interfaces := #[]
  cf := some (fileOf pool8 7 #[] #[{ accessFlags := 4, nameIndex := 5, descriptorIndex := 6, attributes := #[] }] 1057 2 #[] #[])
  fields := #[]
  methods := #[k8m0]
  instanceTypes := #[]
  staticTypes := #[]
  resolved := Array.replicate 22 none
  statics := none }

def pool9 : Array CpInfo := pool [(2, .class_ 4), (1, u "java/lang/Record"), (11, .fieldref 17 18), (0, .class_ 19), (0, .nameAndType 20 21), (0, u "java/time/temporal/ChronoUnit"), (0, u "DAYS"), (0, u "Ljava/time/temporal/ChronoUnit;"), (0, .fieldref 17 23), (0, .nameAndType 24 21), (0, u "MONTHS"), (0, .fieldref 17 26), (0, .nameAndType 27 21), (0, u "YEARS"), (1, .class_ 31), (1, u "java/lang/String"), (6, .class_ 40), (1, u "com/example/rivulet/rivulet/instrument/PaymentFrequency"), (0, u "count"), (0, u "I"), (2, u "unit"), (0, .methodref 29 47), (0, .nameAndType 48 49), (0, u "length"), (0, u "()I"), (0, .methodref 29 51), (0, .nameAndType 52 53), (0, u "charAt"), (0, u "(I)C"), (0, .methodref 55 56), (0, .class_ 57), (0, .nameAndType 58 59), (0, u "java/util/Optional"), (0, u "ofNullable"), (0, u "(Ljava/lang/Object;)Ljava/util/Optional;"), (1, .class_ 63), (1, u "com/example/rivulet/rivulet/instrument/PaymentFrequency$1"), (71, u "AVERAGE_DAYS_A_MONTH"), (0, u "D"), (6, u "unitOf"), (0, u "(Ljava/lang/String;)Ljava/util/Optional;")] 43

def k9c0 : Code := { maxStack := 2, maxLocals := 2, code := prog_34_method_2_code, exceptionTable := #[], attributes := #[] }
def k9m0 : Method := { name := "unitOf", desc := "(Ljava/lang/String;)Ljava/util/Optional;", sig := { parameters := [(.object "java/lang/String")], returnType := some (.object "java/util/Optional") }, accessFlags := 9, code := some k9c0 }
/-- com/example/rivulet/rivulet/instrument/PaymentFrequency -/
def k9 : Class := { plain "com/example/rivulet/rivulet/instrument/PaymentFrequency" (some 8) with
  accessFlags := 49
  interfaces := #[]
  cf := some (fileOf pool9 38 #[.nestMembers #[61]] #[{ accessFlags := 9, nameIndex := 143, descriptorIndex := 144, attributes := #[] }] 49 2 #[] #[{ accessFlags := 18, nameIndex := 41, descriptorIndex := 42, attributes := #[] }, { accessFlags := 18, nameIndex := 45, descriptorIndex := 21, attributes := #[] }, { accessFlags := 26, nameIndex := 135, descriptorIndex := 136, attributes := #[] }])
  fields := #[{ name := "count", type := .int, accessFlags := 18, slot := 0, constantValue := 0 }, { name := "unit", type := (.object "java/time/temporal/ChronoUnit"), accessFlags := 18, slot := 1, constantValue := 0 }, { name := "AVERAGE_DAYS_A_MONTH", type := .double, accessFlags := 26, slot := 0, constantValue := 0 }]
  methods := #[k9m0]
  instanceTypes := #[.int, (.object "java/time/temporal/ChronoUnit")]
  staticTypes := #[.double]
  resolved := Array.replicate 188 none
  statics := none }

def pool10 : Array CpInfo := pool [(1, .fieldref 2 3), (0, .class_ 4), (0, .nameAndType 5 6), (0, u "java/util/Optional"), (0, u "EMPTY"), (0, u "Ljava/util/Optional;"), (0, .methodref 8 9), (0, .class_ 10), (0, .nameAndType 11 12), (0, u "java/lang/Object"), (0, u "<init>"), (0, u "()V"), (0, .fieldref 2 14), (0, .nameAndType 15 16), (0, u "value"), (0, u "Ljava/lang/Object;"), (6, .methodref 2 24), (0, .nameAndType 11 25), (0, u "(Ljava/lang/Object;)V"), (20, u "()Z"), (17, u "ofNullable"), (0, u "(Ljava/lang/Object;)Ljava/util/Optional;"), (2, u "isPresent"), (4, u "get"), (0, u "()Ljava/lang/Object;")] 112

def k10c0 : Code := { maxStack := 2, maxLocals := 2, code := jdk_32_method_2_code, exceptionTable := #[], attributes := #[] }
def k10m0 : Method := { name := "<init>", desc := "(Ljava/lang/Object;)V", sig := { parameters := [(.object "java/lang/Object")], returnType := none }, accessFlags := 2, code := some k10c0 }
def k10c1 : Code := { maxStack := 3, maxLocals := 1, code := jdk_32_method_4_code, exceptionTable := #[], attributes := #[] }
def k10m1 : Method := { name := "ofNullable", desc := "(Ljava/lang/Object;)Ljava/util/Optional;", sig := { parameters := [(.object "java/lang/Object")], returnType := some (.object "java/util/Optional") }, accessFlags := 9, code := some k10c1 }
def k10c2 : Code := { maxStack := 3, maxLocals := 1, code := jdk_32_method_5_code, exceptionTable := #[], attributes := #[] }
def k10m2 : Method := { name := "get", desc := "()Ljava/lang/Object;", sig := { parameters := [], returnType := some (.object "java/lang/Object") }, accessFlags := 1, code := some k10c2 }
def k10c3 : Code := { maxStack := 1, maxLocals := 1, code := jdk_32_method_6_code, exceptionTable := #[], attributes := #[] }
def k10m3 : Method := { name := "isPresent", desc := "()Z", sig := { parameters := [], returnType := some .boolean }, accessFlags := 1, code := some k10c3 }
/-- java/util/Optional -/
def k10 : Class := { plain "java/util/Optional" (some 0) with
  accessFlags := 49
  interfaces := #[]
  cf := some (fileOf pool10 2 #[] #[{ accessFlags := 2, nameIndex := 11, descriptorIndex := 25, attributes := #[] }, { accessFlags := 9, nameIndex := 64, descriptorIndex := 65, attributes := #[] }, { accessFlags := 1, nameIndex := 73, descriptorIndex := 74, attributes := #[] }, { accessFlags := 1, nameIndex := 68, descriptorIndex := 46, attributes := #[] }] 49 8 #[] #[{ accessFlags := 26, nameIndex := 5, descriptorIndex := 6, attributes := #[] }, { accessFlags := 18, nameIndex := 15, descriptorIndex := 16, attributes := #[] }])
  fields := #[{ name := "EMPTY", type := (.object "java/util/Optional"), accessFlags := 26, slot := 0, constantValue := 0 }, { name := "value", type := (.object "java/lang/Object"), accessFlags := 18, slot := 0, constantValue := 0 }]
  methods := #[k10m0, k10m1, k10m2, k10m3]
  instanceTypes := #[(.object "java/lang/Object")]
  staticTypes := #[(.object "java/util/Optional")]
  resolved := Array.replicate 187 none
  statics := some 1 }

def pool11 : Array CpInfo := pool [(3, .class_ 4), (0, u "java/lang/String"), (1, .class_ 8), (1, u "java/lang/Object"), (0, u "<init>"), (0, u "()V"), (0, .methodref 12 13), (0, .class_ 14), (0, .nameAndType 15 16), (0, u "java/lang/StringUTF16"), (0, u "newBytesLength"), (0, u "(I)I"), (3, .integer 1073741823), (23, .fieldref 12 45), (0, .nameAndType 46 47), (0, u "$assertionsDisabled"), (0, u "Z"), (0, .methodref 12 49), (0, .nameAndType 50 51), (0, u "length"), (0, u "([B)I"), (7, .fieldref 12 60), (0, .nameAndType 61 62), (0, u "HI_BYTE_SHIFT"), (0, u "I"), (0, .fieldref 12 64), (0, .nameAndType 65 62), (0, u "LO_BYTE_SHIFT"), (1, .methodref 12 68), (0, .nameAndType 69 70), (0, u "checkIndex"), (0, u "(I[B)V"), (0, .methodref 12 72), (0, .nameAndType 73 74), (0, u "getChar"), (0, u "([BI)C"), (32, .methodref 12 108), (0, .nameAndType 109 110), (0, u "newBytesFor"), (0, u "(I)[B"), (0, .methodref 12 112), (0, .nameAndType 113 114), (0, u "putChar"), (0, u "([BII)V"), (0, .methodref 12 116), (0, .nameAndType 117 118), (0, u "compress"), (0, u "([CI[BII)I"), (0, .methodref 12 120), (0, .nameAndType 121 122), (0, u "toBytes"), (0, u "([CII)[B"), (138, u "coderFromArrayLen"), (0, u "([BI)B"), (106, .class_ 371), (1, u "java/lang/StringUTF16$LinesSpliterator"), (20, u "charAt"), (21, .methodref 3 415), (0, .nameAndType 69 416), (0, u "(II)V"), (13, u "MAX_LENGTH"), (44, u "(C)[B"), (151, .class_ 628), (0, u "java/lang/StringUTF16$CodePointsSpliterator"), (0, .class_ 630), (0, u "java/lang/StringUTF16$CharsSpliterator")] 4

def k11m0 : Method := { name := "<init>", desc := "()V", sig := { parameters := [], returnType := none }, accessFlags := 0, code := none }
def k11c1 : Code := { maxStack := 1, maxLocals := 1, code := jdk_52_method_2_code, exceptionTable := #[], attributes := #[] }
def k11m1 : Method := { name := "newBytesFor", desc := "(I)[B", sig := { parameters := [.int], returnType := some (.array .byte) }, accessFlags := 9, code := some k11c1 }
def k11c2 : Code := { maxStack := 4, maxLocals := 1, code := jdk_52_method_3_code, exceptionTable := #[], attributes := #[] }
def k11m2 : Method := { name := "newBytesLength", desc := "(I)I", sig := { parameters := [.int], returnType := some .int }, accessFlags := 9, code := some k11c2 }
def k11c3 : Code := { maxStack := 4, maxLocals := 3, code := jdk_52_method_4_code, exceptionTable := #[], attributes := #[] }
def k11m3 : Method := { name := "putChar", desc := "([BII)V", sig := { parameters := [(.array .byte), .int, .int], returnType := none }, accessFlags := 8, code := some k11c3 }
def k11c4 : Code := { maxStack := 3, maxLocals := 2, code := jdk_52_method_5_code, exceptionTable := #[], attributes := #[] }
def k11m4 : Method := { name := "getChar", desc := "([BI)C", sig := { parameters := [(.array .byte), .int], returnType := some .char }, accessFlags := 8, code := some k11c4 }
def k11c5 : Code := { maxStack := 2, maxLocals := 1, code := jdk_52_method_6_code, exceptionTable := #[], attributes := #[] }
def k11m5 : Method := { name := "length", desc := "([B)I", sig := { parameters := [(.array .byte)], returnType := some .int }, accessFlags := 9, code := some k11c5 }
def k11c6 : Code := { maxStack := 4, maxLocals := 5, code := jdk_52_method_14_code, exceptionTable := #[], attributes := #[] }
def k11m6 : Method := { name := "toBytes", desc := "([CII)[B", sig := { parameters := [(.array .char), .int, .int], returnType := some (.array .byte) }, accessFlags := 9, code := some k11c6 }
def k11c7 : Code := { maxStack := 2, maxLocals := 2, code := jdk_52_method_15_code, exceptionTable := #[], attributes := #[] }
def k11m7 : Method := { name := "coderFromArrayLen", desc := "([BI)B", sig := { parameters := [(.array .byte), .int], returnType := some .byte }, accessFlags := 8, code := some k11c7 }
def k11c8 : Code := { maxStack := 5, maxLocals := 6, code := jdk_52_method_16_code, exceptionTable := #[], attributes := #[] }
def k11m8 : Method := { name := "compress", desc := "([CII)[B", sig := { parameters := [(.array .char), .int, .int], returnType := some (.array .byte) }, accessFlags := 9, code := some k11c8 }
def k11c9 : Code := { maxStack := 3, maxLocals := 7, code := jdk_52_method_21_code, exceptionTable := #[], attributes := #[] }
def k11m9 : Method := { name := "compress", desc := "([CI[BII)I", sig := { parameters := [(.array .char), .int, (.array .byte), .int, .int], returnType := some .int }, accessFlags := 9, code := some k11c9 }
def k11c10 : Code := { maxStack := 3, maxLocals := 2, code := jdk_52_method_24_code, exceptionTable := #[], attributes := #[] }
def k11m10 : Method := { name := "toBytes", desc := "(C)[B", sig := { parameters := [.char], returnType := some (.array .byte) }, accessFlags := 9, code := some k11c10 }
def k11c11 : Code := { maxStack := 2, maxLocals := 2, code := jdk_52_method_83_code, exceptionTable := #[], attributes := #[] }
def k11m11 : Method := { name := "charAt", desc := "([BI)C", sig := { parameters := [(.array .byte), .int], returnType := some .char }, accessFlags := 9, code := some k11c11 }
def k11c12 : Code := { maxStack := 2, maxLocals := 2, code := jdk_52_method_91_code, exceptionTable := #[], attributes := #[] }
def k11m12 : Method := { name := "checkIndex", desc := "(I[B)V", sig := { parameters := [.int, (.array .byte)], returnType := none }, accessFlags := 9, code := some k11c12 }
/-- java/lang/StringUTF16 -/
def k11 : Class := { plain "java/lang/StringUTF16" (some 0) with
  accessFlags := 48
  interfaces := #[]
  cf := some (fileOf pool11 12 #[.nestMembers #[627, 629, 369]] #[{ accessFlags := 0, nameIndex := 9, descriptorIndex := 10, attributes := #[] }, { accessFlags := 9, nameIndex := 109, descriptorIndex := 110, attributes := #[] }, { accessFlags := 9, nameIndex := 15, descriptorIndex := 16, attributes := #[] }, { accessFlags := 8, nameIndex := 113, descriptorIndex := 114, attributes := #[] }, { accessFlags := 8, nameIndex := 73, descriptorIndex := 74, attributes := #[] }, { accessFlags := 9, nameIndex := 50, descriptorIndex := 51, attributes := #[] }, { accessFlags := 9, nameIndex := 121, descriptorIndex := 122, attributes := #[] }, { accessFlags := 8, nameIndex := 261, descriptorIndex := 262, attributes := #[] }, { accessFlags := 9, nameIndex := 117, descriptorIndex := 122, attributes := #[] }, { accessFlags := 9, nameIndex := 117, descriptorIndex := 118, attributes := #[] }, { accessFlags := 9, nameIndex := 121, descriptorIndex := 475, attributes := #[] }, { accessFlags := 9, nameIndex := 392, descriptorIndex := 74, attributes := #[] }, { accessFlags := 9, nameIndex := 69, descriptorIndex := 70, attributes := #[] }] 48 6 #[] #[{ accessFlags := 26, nameIndex := 61, descriptorIndex := 62, attributes := #[] }, { accessFlags := 26, nameIndex := 65, descriptorIndex := 62, attributes := #[] }, { accessFlags := 24, nameIndex := 430, descriptorIndex := 62, attributes := #[] }, { accessFlags := 4120, nameIndex := 46, descriptorIndex := 47, attributes := #[] }])
  fields := #[{ name := "HI_BYTE_SHIFT", type := .int, accessFlags := 26, slot := 0, constantValue := 0 }, { name := "LO_BYTE_SHIFT", type := .int, accessFlags := 26, slot := 1, constantValue := 0 }, { name := "MAX_LENGTH", type := .int, accessFlags := 24, slot := 2, constantValue := 0 }, { name := "$assertionsDisabled", type := .boolean, accessFlags := 4120, slot := 3, constantValue := 0 }]
  methods := #[k11m0, k11m1, k11m2, k11m3, k11m4, k11m5, k11m6, k11m7, k11m8, k11m9, k11m10, k11m11, k11m12]
  instanceTypes := #[]
  staticTypes := #[.int, .int, .int, .boolean]
  resolved := Array.replicate 635 none
  statics := some 2 }

def pool12 : Array CpInfo := pool [(1, .class_ 2), (0, u "java/lang/String"), (1, .class_ 6), (1, u "java/lang/Object"), (0, u "<init>"), (0, u "()V"), (0, .methodref 1 10), (0, .nameAndType 11 12), (0, u "checkIndex"), (0, u "(II)V"), (1, .class_ 16), (1, u "java/lang/StringLatin1"), (36, u "([BI)C"), (36, u "canEncode"), (14, u "(C)Z"), (15, u "$assertionsDisabled"), (0, u "Z"), (98, .class_ 223), (1, u "java/lang/StringLatin1$LinesSpliterator"), (28, u "charAt"), (127, u "toBytes"), (1, u "(C)[B"), (7, .class_ 391), (0, u "java/lang/StringLatin1$CharsSpliterator")] 3

def k12m0 : Method := { name := "<init>", desc := "()V", sig := { parameters := [], returnType := none }, accessFlags := 0, code := none }
def k12c1 : Code := { maxStack := 2, maxLocals := 2, code := jdk_43_method_2_code, exceptionTable := #[], attributes := #[] }
def k12m1 : Method := { name := "charAt", desc := "([BI)C", sig := { parameters := [(.array .byte), .int], returnType := some .char }, accessFlags := 9, code := some k12c1 }
def k12c2 : Code := { maxStack := 2, maxLocals := 1, code := jdk_43_method_3_code, exceptionTable := #[], attributes := #[] }
def k12m2 : Method := { name := "canEncode", desc := "(C)Z", sig := { parameters := [.char], returnType := some .boolean }, accessFlags := 9, code := some k12c2 }
def k12c3 : Code := { maxStack := 4, maxLocals := 1, code := jdk_43_method_46_code, exceptionTable := #[], attributes := #[] }
def k12m3 : Method := { name := "toBytes", desc := "(C)[B", sig := { parameters := [.char], returnType := some (.array .byte) }, accessFlags := 9, code := some k12c3 }
/-- java/lang/StringLatin1 -/
def k12 : Class := { plain "java/lang/StringLatin1" (some 0) with
  accessFlags := 48
  interfaces := #[]
  cf := some (fileOf pool12 14 #[.nestMembers #[390, 221]] #[{ accessFlags := 0, nameIndex := 7, descriptorIndex := 8, attributes := #[] }, { accessFlags := 9, nameIndex := 252, descriptorIndex := 53, attributes := #[] }, { accessFlags := 9, nameIndex := 90, descriptorIndex := 105, attributes := #[] }, { accessFlags := 9, nameIndex := 380, descriptorIndex := 382, attributes := #[] }] 48 4 #[] #[{ accessFlags := 4120, nameIndex := 121, descriptorIndex := 122, attributes := #[] }])
  fields := #[{ name := "$assertionsDisabled", type := .boolean, accessFlags := 4120, slot := 0, constantValue := 0 }]
  methods := #[k12m0, k12m1, k12m2, k12m3]
  instanceTypes := #[]
  staticTypes := #[.boolean]
  resolved := Array.replicate 395 none
  statics := none }

def pool13 : Array CpInfo := pool [(2, .class_ 4), (1, u "java/lang/Object"), (0, u "<init>"), (0, u "()V"), (17, .class_ 26), (1, u "jdk/internal/util/Preconditions"), (6, u "checkIndex"), (21, .class_ 56), (0, u "jdk/internal/util/Preconditions$4"), (57, .class_ 115), (0, u "jdk/internal/util/Preconditions$1"), (7, u "SIOOBE_FORMATTER"), (0, u "Ljava/util/function/BiFunction;"), (0, .class_ 126), (0, u "jdk/internal/util/Preconditions$2"), (3, u "AIOOBE_FORMATTER"), (0, .class_ 132), (0, u "jdk/internal/util/Preconditions$3"), (3, u "IOOBE_FORMATTER"), (41, u "(IILjava/util/function/BiFunction;)I")] 15

def k13m0 : Method := { name := "<init>", desc := "()V", sig := { parameters := [], returnType := none }, accessFlags := 1, code := none }
def k13c1 : Code := { maxStack := 3, maxLocals := 3, code := jdk_41_method_11_code, exceptionTable := #[], attributes := #[] }
def k13m1 : Method := { name := "checkIndex", desc := "(IILjava/util/function/BiFunction;)I", sig := { parameters := [.int, .int, (.object "java/util/function/BiFunction")], returnType := some .int }, accessFlags := 9, code := some k13c1 }
/-- jdk/internal/util/Preconditions -/
def k13 : Class := { plain "jdk/internal/util/Preconditions" (some 0) with
  accessFlags := 33
  interfaces := #[]
  cf := some (fileOf pool13 24 #[.nestMembers #[55, 131, 125, 114]] #[{ accessFlags := 1, nameIndex := 5, descriptorIndex := 6, attributes := #[] }, { accessFlags := 9, nameIndex := 33, descriptorIndex := 178, attributes := #[] }] 33 2 #[] #[{ accessFlags := 25, nameIndex := 123, descriptorIndex := 124, attributes := #[] }, { accessFlags := 25, nameIndex := 130, descriptorIndex := 124, attributes := #[] }, { accessFlags := 25, nameIndex := 136, descriptorIndex := 124, attributes := #[] }])
  fields := #[{ name := "SIOOBE_FORMATTER", type := (.object "java/util/function/BiFunction"), accessFlags := 25, slot := 0, constantValue := 0 }, { name := "AIOOBE_FORMATTER", type := (.object "java/util/function/BiFunction"), accessFlags := 25, slot := 1, constantValue := 0 }, { name := "IOOBE_FORMATTER", type := (.object "java/util/function/BiFunction"), accessFlags := 25, slot := 2, constantValue := 0 }]
  methods := #[k13m0, k13m1]
  instanceTypes := #[]
  staticTypes := #[(.object "java/util/function/BiFunction"), (.object "java/util/function/BiFunction"), (.object "java/util/function/BiFunction")]
  resolved := Array.replicate 194 none
  statics := some 3 }

def pool14 : Array CpInfo := pool [(2, .class_ 4), (1, u "java/lang/Enum"), (0, u "name"), (0, u "Ljava/lang/String;"), (2, u "ordinal"), (0, u "I"), (1, .class_ 14), (1, u "java/lang/Object"), (4, u "hash"), (86, .class_ 108), (1, u "java/lang/Enum$EnumDesc"), (2, .class_ 112), (0, u "java/lang/constant/Constable"), (0, .class_ 114), (0, u "java/lang/Comparable"), (0, .class_ 116), (0, u "java/io/Serializable")] 87

/-- java/lang/Enum -/
def k14 : Class := { plain "java/lang/Enum" (some 0) with
  accessFlags := 1057
  interfaces := #[5, 3, 2]
  cf := some (fileOf pool14 2 #[.nestMembers #[106]] #[] 1057 12 #[111, 113, 115] #[{ accessFlags := 18, nameIndex := 5, descriptorIndex := 6, attributes := #[] }, { accessFlags := 18, nameIndex := 9, descriptorIndex := 10, attributes := #[] }, { accessFlags := 2, nameIndex := 19, descriptorIndex := 10, attributes := #[] }])
  fields := #[{ name := "name", type := (.object "java/lang/String"), accessFlags := 18, slot := 0, constantValue := 0 }, { name := "ordinal", type := .int, accessFlags := 18, slot := 1, constantValue := 0 }, { name := "hash", type := .int, accessFlags := 2, slot := 2, constantValue := 0 }]
  methods := #[]
  instanceTypes := #[(.object "java/lang/String"), .int, .int]
  staticTypes := #[]
  resolved := Array.replicate 204 none
  statics := none }

def pool15 : Array CpInfo := pool [(4, .class_ 6), (1, u "java/time/temporal/TemporalUnit"), (23, .class_ 31), (0, u "java/lang/Object")] 27

/-- java/time/temporal/TemporalUnit -/
def k15 : Class := { plain "java/time/temporal/TemporalUnit" (some 0) with
  accessFlags := 1537
  interfaces := #[]
  cf := some (fileOf pool15 4 #[] #[] 1537 30 #[] #[])
  fields := #[]
  methods := #[]
  instanceTypes := #[]
  staticTypes := #[]
  resolved := Array.replicate 59 none
  statics := none }

def pool16 : Array CpInfo := pool [(1, .class_ 2), (0, u "java/time/temporal/ChronoUnit"), (2, u "NANOS"), (0, u "Ljava/time/temporal/ChronoUnit;"), (2, u "MICROS"), (2, u "MILLIS"), (2, u "SECONDS"), (2, u "MINUTES"), (2, u "HOURS"), (2, u "HALF_DAYS"), (2, u "DAYS"), (2, u "WEEKS"), (2, u "MONTHS"), (2, u "YEARS"), (2, u "DECADES"), (2, u "CENTURIES"), (2, u "MILLENNIA"), (2, u "ERAS"), (2, u "FOREVER"), (2, u "$VALUES"), (0, u "[Ljava/time/temporal/ChronoUnit;"), (6, .class_ 64), (1, u "java/lang/Enum"), (8, u "name"), (0, u "Ljava/lang/String;"), (2, u "duration"), (0, u "Ljava/time/Duration;"), (117, .class_ 197), (0, u "java/time/temporal/TemporalUnit")] 39

/-- java/time/temporal/ChronoUnit -/
def k16 : Class := { plain "java/time/temporal/ChronoUnit" (some 14) with
  accessFlags := 16433
  interfaces := #[15]
  cf := some (fileOf pool16 1 #[] #[] 16433 62 #[196] #[{ accessFlags := 16409, nameIndex := 5, descriptorIndex := 6, attributes := #[] }, { accessFlags := 16409, nameIndex := 9, descriptorIndex := 6, attributes := #[] }, { accessFlags := 16409, nameIndex := 12, descriptorIndex := 6, attributes := #[] }, { accessFlags := 16409, nameIndex := 15, descriptorIndex := 6, attributes := #[] }, { accessFlags := 16409, nameIndex := 18, descriptorIndex := 6, attributes := #[] }, { accessFlags := 16409, nameIndex := 21, descriptorIndex := 6, attributes := #[] }, { accessFlags := 16409, nameIndex := 24, descriptorIndex := 6, attributes := #[] }, { accessFlags := 16409, nameIndex := 27, descriptorIndex := 6, attributes := #[] }, { accessFlags := 16409, nameIndex := 30, descriptorIndex := 6, attributes := #[] }, { accessFlags := 16409, nameIndex := 33, descriptorIndex := 6, attributes := #[] }, { accessFlags := 16409, nameIndex := 36, descriptorIndex := 6, attributes := #[] }, { accessFlags := 16409, nameIndex := 39, descriptorIndex := 6, attributes := #[] }, { accessFlags := 16409, nameIndex := 42, descriptorIndex := 6, attributes := #[] }, { accessFlags := 16409, nameIndex := 45, descriptorIndex := 6, attributes := #[] }, { accessFlags := 16409, nameIndex := 48, descriptorIndex := 6, attributes := #[] }, { accessFlags := 16409, nameIndex := 51, descriptorIndex := 6, attributes := #[] }, { accessFlags := 18, nameIndex := 73, descriptorIndex := 74, attributes := #[] }, { accessFlags := 18, nameIndex := 77, descriptorIndex := 78, attributes := #[] }, { accessFlags := 4122, nameIndex := 54, descriptorIndex := 55, attributes := #[] }])
  fields := #[{ name := "NANOS", type := (.object "java/time/temporal/ChronoUnit"), accessFlags := 16409, slot := 0, constantValue := 0 }, { name := "MICROS", type := (.object "java/time/temporal/ChronoUnit"), accessFlags := 16409, slot := 1, constantValue := 0 }, { name := "MILLIS", type := (.object "java/time/temporal/ChronoUnit"), accessFlags := 16409, slot := 2, constantValue := 0 }, { name := "SECONDS", type := (.object "java/time/temporal/ChronoUnit"), accessFlags := 16409, slot := 3, constantValue := 0 }, { name := "MINUTES", type := (.object "java/time/temporal/ChronoUnit"), accessFlags := 16409, slot := 4, constantValue := 0 }, { name := "HOURS", type := (.object "java/time/temporal/ChronoUnit"), accessFlags := 16409, slot := 5, constantValue := 0 }, { name := "HALF_DAYS", type := (.object "java/time/temporal/ChronoUnit"), accessFlags := 16409, slot := 6, constantValue := 0 }, { name := "DAYS", type := (.object "java/time/temporal/ChronoUnit"), accessFlags := 16409, slot := 7, constantValue := 0 }, { name := "WEEKS", type := (.object "java/time/temporal/ChronoUnit"), accessFlags := 16409, slot := 8, constantValue := 0 }, { name := "MONTHS", type := (.object "java/time/temporal/ChronoUnit"), accessFlags := 16409, slot := 9, constantValue := 0 }, { name := "YEARS", type := (.object "java/time/temporal/ChronoUnit"), accessFlags := 16409, slot := 10, constantValue := 0 }, { name := "DECADES", type := (.object "java/time/temporal/ChronoUnit"), accessFlags := 16409, slot := 11, constantValue := 0 }, { name := "CENTURIES", type := (.object "java/time/temporal/ChronoUnit"), accessFlags := 16409, slot := 12, constantValue := 0 }, { name := "MILLENNIA", type := (.object "java/time/temporal/ChronoUnit"), accessFlags := 16409, slot := 13, constantValue := 0 }, { name := "ERAS", type := (.object "java/time/temporal/ChronoUnit"), accessFlags := 16409, slot := 14, constantValue := 0 }, { name := "FOREVER", type := (.object "java/time/temporal/ChronoUnit"), accessFlags := 16409, slot := 15, constantValue := 0 }, { name := "name", type := (.object "java/lang/String"), accessFlags := 18, slot := 3, constantValue := 0 }, { name := "duration", type := (.object "java/time/Duration"), accessFlags := 18, slot := 4, constantValue := 0 }, { name := "$VALUES", type := (.array (.object "java/time/temporal/ChronoUnit")), accessFlags := 4122, slot := 16, constantValue := 0 }]
  methods := #[]
  instanceTypes := #[(.object "java/lang/String"), .int, .int, (.object "java/lang/String"), (.object "java/time/Duration")]
  staticTypes := #[(.object "java/time/temporal/ChronoUnit"), (.object "java/time/temporal/ChronoUnit"), (.object "java/time/temporal/ChronoUnit"), (.object "java/time/temporal/ChronoUnit"), (.object "java/time/temporal/ChronoUnit"), (.object "java/time/temporal/ChronoUnit"), (.object "java/time/temporal/ChronoUnit"), (.object "java/time/temporal/ChronoUnit"), (.object "java/time/temporal/ChronoUnit"), (.object "java/time/temporal/ChronoUnit"), (.object "java/time/temporal/ChronoUnit"), (.object "java/time/temporal/ChronoUnit"), (.object "java/time/temporal/ChronoUnit"), (.object "java/time/temporal/ChronoUnit"), (.object "java/time/temporal/ChronoUnit"), (.object "java/time/temporal/ChronoUnit"), (.array (.object "java/time/temporal/ChronoUnit"))]
  resolved := Array.replicate 237 none
  statics := some 4 }

def pool17 : Array CpInfo := pool [(9, u "<init>"), (6, .class_ 18), (1, u "java/lang/Object"), (0, u "()V"), (1, .class_ 23), (1, u "jdk/internal/util/ArraysSupport"), (0, u "LOG2_ARRAY_LONG_INDEX_SCALE"), (0, u "I"), (2, u "U"), (0, u "Ljdk/internal/misc/Unsafe;"), (8, u "BIG_ENDIAN"), (0, u "Z"), (8, u "LOG2_BYTE_BIT_SIZE"), (4, u "LOG2_ARRAY_INT_INDEX_SCALE"), (54, u "JLA"), (0, u "Ljdk/internal/access/JavaLangAccess;"), (11, u "LOG2_ARRAY_BOOLEAN_INDEX_SCALE"), (9, u "LOG2_ARRAY_BYTE_INDEX_SCALE"), (5, u "LOG2_ARRAY_CHAR_INDEX_SCALE"), (5, u "LOG2_ARRAY_SHORT_INDEX_SCALE"), (18, u "LOG2_ARRAY_FLOAT_INDEX_SCALE"), (24, u "LOG2_ARRAY_DOUBLE_INDEX_SCALE"), (89, u "T_BOOLEAN"), (2, u "T_CHAR"), (1, u "T_FLOAT"), (1, u "T_DOUBLE"), (1, u "T_BYTE"), (1, u "T_SHORT"), (1, u "T_INT"), (1, u "T_LONG"), (1, u "SOFT_MAX_ARRAY_LENGTH")] 83

def k17m0 : Method := { name := "<init>", desc := "()V", sig := { parameters := [], returnType := none }, accessFlags := 2, code := none }
/-- jdk/internal/util/ArraysSupport -/
def k17 : Class := { plain "jdk/internal/util/ArraysSupport" (some 0) with
  accessFlags := 33
  interfaces := #[]
  cf := some (fileOf pool17 21 #[] #[{ accessFlags := 2, nameIndex := 9, descriptorIndex := 19, attributes := #[] }] 33 16 #[] #[{ accessFlags := 24, nameIndex := 28, descriptorIndex := 29, attributes := #[] }, { accessFlags := 26, nameIndex := 38, descriptorIndex := 39, attributes := #[] }, { accessFlags := 25, nameIndex := 121, descriptorIndex := 25, attributes := #[] }, { accessFlags := 25, nameIndex := 131, descriptorIndex := 25, attributes := #[] }, { accessFlags := 25, nameIndex := 137, descriptorIndex := 25, attributes := #[] }, { accessFlags := 25, nameIndex := 143, descriptorIndex := 25, attributes := #[] }, { accessFlags := 25, nameIndex := 53, descriptorIndex := 25, attributes := #[] }, { accessFlags := 25, nameIndex := 24, descriptorIndex := 25, attributes := #[] }, { accessFlags := 25, nameIndex := 162, descriptorIndex := 25, attributes := #[] }, { accessFlags := 25, nameIndex := 187, descriptorIndex := 25, attributes := #[] }, { accessFlags := 26, nameIndex := 48, descriptorIndex := 25, attributes := #[] }, { accessFlags := 25, nameIndex := 277, descriptorIndex := 25, attributes := #[] }, { accessFlags := 25, nameIndex := 280, descriptorIndex := 25, attributes := #[] }, { accessFlags := 25, nameIndex := 282, descriptorIndex := 25, attributes := #[] }, { accessFlags := 25, nameIndex := 284, descriptorIndex := 25, attributes := #[] }, { accessFlags := 25, nameIndex := 286, descriptorIndex := 25, attributes := #[] }, { accessFlags := 25, nameIndex := 288, descriptorIndex := 25, attributes := #[] }, { accessFlags := 25, nameIndex := 290, descriptorIndex := 25, attributes := #[] }, { accessFlags := 25, nameIndex := 292, descriptorIndex := 25, attributes := #[] }, { accessFlags := 26, nameIndex := 108, descriptorIndex := 109, attributes := #[] }, { accessFlags := 25, nameIndex := 294, descriptorIndex := 25, attributes := #[] }])
  fields := #[{ name := "U", type := (.object "jdk/internal/misc/Unsafe"), accessFlags := 24, slot := 0, constantValue := 0 }, { name := "BIG_ENDIAN", type := .boolean, accessFlags := 26, slot := 1, constantValue := 0 }, { name := "LOG2_ARRAY_BOOLEAN_INDEX_SCALE", type := .int, accessFlags := 25, slot := 2, constantValue := 0 }, { name := "LOG2_ARRAY_BYTE_INDEX_SCALE", type := .int, accessFlags := 25, slot := 3, constantValue := 0 }, { name := "LOG2_ARRAY_CHAR_INDEX_SCALE", type := .int, accessFlags := 25, slot := 4, constantValue := 0 }, { name := "LOG2_ARRAY_SHORT_INDEX_SCALE", type := .int, accessFlags := 25, slot := 5, constantValue := 0 }, { name := "LOG2_ARRAY_INT_INDEX_SCALE", type := .int, accessFlags := 25, slot := 6, constantValue := 0 }, { name := "LOG2_ARRAY_LONG_INDEX_SCALE", type := .int, accessFlags := 25, slot := 7, constantValue := 0 }, { name := "LOG2_ARRAY_FLOAT_INDEX_SCALE", type := .int, accessFlags := 25, slot := 8, constantValue := 0 }, { name := "LOG2_ARRAY_DOUBLE_INDEX_SCALE", type := .int, accessFlags := 25, slot := 9, constantValue := 0 }, { name := "LOG2_BYTE_BIT_SIZE", type := .int, accessFlags := 26, slot := 10, constantValue := 0 }, { name := "T_BOOLEAN", type := .int, accessFlags := 25, slot := 11, constantValue := 0 }, { name := "T_CHAR", type := .int, accessFlags := 25, slot := 12, constantValue := 0 }, { name := "T_FLOAT", type := .int, accessFlags := 25, slot := 13, constantValue := 0 }, { name := "T_DOUBLE", type := .int, accessFlags := 25, slot := 14, constantValue := 0 }, { name := "T_BYTE", type := .int, accessFlags := 25, slot := 15, constantValue := 0 }, { name := "T_SHORT", type := .int, accessFlags := 25, slot := 16, constantValue := 0 }, { name := "T_INT", type := .int, accessFlags := 25, slot := 17, constantValue := 0 }, { name := "T_LONG", type := .int, accessFlags := 25, slot := 18, constantValue := 0 }, { name := "JLA", type := (.object "jdk/internal/access/JavaLangAccess"), accessFlags := 26, slot := 19, constantValue := 0 }, { name := "SOFT_MAX_ARRAY_LENGTH", type := .int, accessFlags := 25, slot := 20, constantValue := 0 }]
  methods := #[k17m0]
  instanceTypes := #[]
  staticTypes := #[(.object "jdk/internal/misc/Unsafe"), .boolean, .int, .int, .int, .int, .int, .int, .int, .int, .int, .int, .int, .int, .int, .int, .int, .int, .int, (.object "jdk/internal/access/JavaLangAccess"), .int]
  resolved := Array.replicate 378 none
  statics := none }

def pool18 : Array CpInfo := pool [(1, .class_ 2), (0, u "java/time/temporal/TemporalAmount"), (0, .class_ 4), (0, u "java/lang/Object")] 11

/-- java/time/temporal/TemporalAmount -/
def k18 : Class := { plain "java/time/temporal/TemporalAmount" (some 0) with
  accessFlags := 1537
  interfaces := #[]
  cf := some (fileOf pool18 1 #[] #[] 1537 3 #[] #[])
  fields := #[]
  methods := #[]
  instanceTypes := #[]
  staticTypes := #[]
  resolved := Array.replicate 16 none
  statics := none }

def pool19 : Array CpInfo := pool [(11, .class_ 13), (1, u "java/time/Duration"), (20, u "ZERO"), (0, u "Ljava/time/Duration;"), (13, .class_ 51), (1, u "java/time/temporal/TemporalAmount"), (27, .class_ 81), (1, u "java/time/Duration$Lazy"), (35, u "seconds"), (101, .class_ 220), (0, u "java/lang/Object"), (2, u "J"), (2, u "nanos"), (0, u "I"), (11, .class_ 241), (1, u "java/time/Duration$DurationUnits"), (27, .class_ 271), (1, u "java/time/Duration$1"), (91, u "BI_NANOS_PER_SECOND"), (0, u "Ljava/math/BigInteger;"), (120, .class_ 486), (0, u "java/lang/Comparable"), (0, .class_ 488), (0, u "java/io/Serializable"), (0, u "serialVersionUID")] 166

/-- java/time/Duration -/
def k19 : Class := { plain "java/time/Duration" (some 0) with
  accessFlags := 49
  interfaces := #[18, 3, 2]
  cf := some (fileOf pool19 11 #[.nestMembers #[269, 239, 79]] #[] 49 219 #[49, 485, 487] #[{ accessFlags := 25, nameIndex := 34, descriptorIndex := 35, attributes := #[] }, { accessFlags := 26, nameIndex := 489, descriptorIndex := 223, attributes := #[] }, { accessFlags := 26, nameIndex := 363, descriptorIndex := 364, attributes := #[] }, { accessFlags := 18, nameIndex := 117, descriptorIndex := 223, attributes := #[] }, { accessFlags := 18, nameIndex := 226, descriptorIndex := 227, attributes := #[] }])
  fields := #[{ name := "ZERO", type := (.object "java/time/Duration"), accessFlags := 25, slot := 0, constantValue := 0 }, { name := "serialVersionUID", type := .long, accessFlags := 26, slot := 1, constantValue := 0 }, { name := "BI_NANOS_PER_SECOND", type := (.object "java/math/BigInteger"), accessFlags := 26, slot := 2, constantValue := 0 }, { name := "seconds", type := .long, accessFlags := 18, slot := 0, constantValue := 0 }, { name := "nanos", type := .int, accessFlags := 18, slot := 1, constantValue := 0 }]
  methods := #[]
  instanceTypes := #[.long, .int]
  staticTypes := #[(.object "java/time/Duration"), .long, (.object "java/math/BigInteger")]
  resolved := Array.replicate 656 none
  statics := none }

def pool20 : Array CpInfo := pool [(1, u "java/lang/Cloneable"), (0, .class_ 1), (0, u "java/lang/Object"), (0, .class_ 3)] 3

/-- java/lang/Cloneable -/
def k20 : Class := { plain "java/lang/Cloneable" (some 0) with
  accessFlags := 1537
  interfaces := #[]
  cf := some (fileOf pool20 2 #[] #[] 1537 4 #[] #[])
  fields := #[]
  methods := #[]
  instanceTypes := #[]
  staticTypes := #[]
  resolved := Array.replicate 8 none
  statics := none }

/-- the primitive byte -/
def k21 : Class := { plain "byte" none with kind := .primitive 'B', accessFlags := 0x411 }
/-- [B -/
def k22 : Class := { plain "[B" (some 0) with kind := .array 21 .byte, interfaces := #[20, 2], accessFlags := 1041 }

/-- the primitive char -/
def k23 : Class := { plain "char" none with kind := .primitive 'C', accessFlags := 0x411 }
/-- [C -/
def k24 : Class := { plain "[C" (some 0) with kind := .array 23 .char, interfaces := #[20, 2], accessFlags := 1041 }

/-- the primitive int -/
def k25 : Class := { plain "int" none with kind := .primitive 'I', accessFlags := 0x411 }
/-- [I -/
def k26 : Class := { plain "[I" (some 0) with kind := .array 25 .int, interfaces := #[20, 2], accessFlags := 1041 }

def heap : Heap := #[{ cls := 7, slots := #[.long 0, .int 1, .null, .int 0, .null, .int 0, .int 0], vm := .statics 7 },
  { cls := 10, slots := #[.ref 12], vm := .statics 10 },
  { cls := 11, slots := #[.int 0, .int 8, .int 0, .int 1], vm := .statics 11 },
  { cls := 13, slots := #[.null, .null, .null], vm := .statics 13 },
  { cls := 16, slots := #[.null, .null, .null, .null, .null, .null, .null, .ref 10, .null, .ref 11, .ref 9, .null, .null, .null, .null, .null, .null], vm := .statics 16 },
  { cls := 7, slots := #[.null, .int 0, .int 0, .int 0], vm := .none },
  { cls := 19, slots := #[.long 31556952, .int 0], vm := .none },
  { cls := 19, slots := #[.long 86400, .int 0], vm := .none },
  { cls := 19, slots := #[.long 2629746, .int 0], vm := .none },
  { cls := 16, slots := #[.ref 5, .int 10, .int 0, .ref 5, .ref 6], vm := .none },
  { cls := 16, slots := #[.ref 5, .int 7, .int 0, .ref 5, .ref 7], vm := .none },
  { cls := 16, slots := #[.ref 5, .int 9, .int 0, .ref 5, .ref 8], vm := .none },
  { cls := 10, slots := #[.null], vm := .none }]
def classes : Array Class := #[k0, k1, k2, k3, k4, k5, k6, k7, k8, k9, k10, k11, k12, k13, k14, k15, k16, k17, k18, k19, k20, k21, k22, k23, k24, k25, k26]
def interned : List (Array UInt16 × Addr) := []
def slotsUsed : Nat := 58
def theMethod : MethodId := ⟨1, 1⟩
def args0 : Array Value := #[.int 5, .int 3, .int 7, .int 9]
def aboutOver (below : List Frame) : State where
  vm := { classes := classes, interned := interned.toArray }
  heap := heap
  slotsUsed := slotsUsed
  threads := #[{ frames := .invoking theMethod args0 :: below }]
def below0 : List Frame := [.native { method := ⟨0, 0⟩, args := #[] }]
def about1 : State := aboutOver below0
def p0 : Program := .bare "" "" ""
def e0 : Env := launch0.env 0 0 0
theorem w_frames : about1.frames = Frame.invoking theMethod args0 :: below0 := rfl
set_option maxRecDepth 65536 in
theorem w_args : argsFit about1.vm theMethod args0 = true := by decide +kernel
set_option maxRecDepth 65536 in
theorem w_heap : heapFits about1 = true := by decide +kernel
set_option maxRecDepth 65536 in
theorem w_runnable : about1.curStatus? = some .runnable := by decide +kernel
set_option maxRecDepth 65536 in
theorem w_alone : about1.alone = true := by decide +kernel
set_option maxRecDepth 65536 in
theorem w_named : about1.methodNamed? x = some theMethod := by decide +kernel
set_option maxRecDepth 65536 in
theorem w_hears : about1.hears theMethod below0 = true := by decide +kernel
set_option maxRecDepth 65536 in
theorem w_ripe : about1.ripe theMethod args0 below0 = true := by decide +kernel
theorem w_running : about1.status = .running := rfl
set_option maxRecDepth 65536 in
theorem w_room : about1.hasRoom e0.platform room_1 = true :=
  launch0.hasRoom_least _ room_1 (by decide +kernel) (by decide +kernel) (by decide +kernel) (by decide +kernel) (by decide +kernel) (by decide +kernel)
theorem allAtoms_all (ts : List Jvm.Cond) (a : Array Jvm.Value) (st : Jvm.State) : (allAtoms ts).before a st = ts.all (fun c => c.before a st) := by
  induction ts with
  | nil => rfl
  | cons c t ih =>
    show (Jvm.Cond.and c (allAtoms t)).before a st = _
    rw [Jvm.Cond.before_and, ih, List.all_cons]
def words1 : List Jvm.Cond := Jvm.Cond.code x code maxLocals ret :: tables_1
/-- a 'code' word, met by the world's own term for the bytes: nothing is compared byte by byte -/
theorem code_word {y : MethodName} {bytes : ByteArray} {mx : Nat} {rt : Option FieldType} {a : Array Value} {s : State} {m : MethodId} {meth : Method} {c : Code} (h1 : s.methodNamed? y = some m) (h2 : s.vm.method? m = some meth) (h3 : meth.code = some c) (h4 : c.code = bytes)
    (h5 : (c.maxLocals == mx && c.exceptionTable.isEmpty && decide (c.maxStack ≤ mostOperands) && decide (meth.sig.returnType = rt) && !meth.locks && decide (parseMethodDescriptor y.desc = some meth.sig)) = true) : (Jvm.Cond.code y bytes mx rt).before a s = true := by
  simp only [Bool.and_eq_true, beq_iff_eq, Bool.not_eq_true', decide_eq_true_eq] at h5
  obtain ⟨⟨⟨⟨⟨g1, g2⟩, g3⟩, g4⟩, g5⟩, g6⟩ := h5
  simp [Cond.before, Cond.holds, Cond.value, h1, h2, h3, h4, g1, g2, g3, g4, g5, g6]
def isCode : Jvm.Cond → Bool
  | .code _ _ _ _ => true
  | _ => false
theorem all_split {L : List Jvm.Cond} {P : Jvm.Cond → Bool} (h1 : L.all (fun c => isCode c || P c) = true) (h2 : ∀ c ∈ L.filter isCode, P c = true) : L.all P = true := by
  refine List.all_eq_true.mpr fun c hc => ?_
  have h := List.all_eq_true.mp h1 c hc
  rcases Bool.eq_false_or_eq_true (isCode c) with hi | hi
  · exact h2 c (List.mem_filter.mpr ⟨hc, hi⟩)
  · simpa [hi] using h
set_option maxRecDepth 65536 in
theorem w_c0 : (Jvm.Cond.code x code maxLocals ret).before args0 about1 = true := code_word (m := ⟨1, 1⟩) (meth := k1m1) (c := k1c1) (by decide +kernel) rfl rfl rfl (by decide +kernel)
set_option maxRecDepth 65536 in
theorem w_c1 : (Jvm.Cond.code ({ cls := "com/example/rivulet/rivulet/instrument/PaymentFrequencyUnitOfPinLaw", name := "make", desc := "(ICCC)Ljava/lang/String;" } : Jvm.MethodName) method_3_code (4 : Nat) (Option.some (Jvm.ClassFile.FieldType.object "java/lang/String"))).before args0 about1 = true := code_word (m := ⟨1, 2⟩) (meth := k1m2) (c := k1c2) (by decide +kernel) rfl rfl rfl (by decide +kernel)
set_option maxRecDepth 65536 in
theorem w_c2 : (Jvm.Cond.code ({ cls := "java/lang/String", name := "<init>", desc := "([C)V" } : Jvm.MethodName) jdk_42_method_3_code (2 : Nat) (Option.none : Option Jvm.ClassFile.FieldType)).before args0 about1 = true := code_word (m := ⟨7, 1⟩) (meth := k7m1) (c := k7c1) (by decide +kernel) rfl rfl rfl (by decide +kernel)
set_option maxRecDepth 65536 in
theorem w_c3 : (Jvm.Cond.code ({ cls := "java/lang/String", name := "<init>", desc := "([CIILjava/lang/Void;)V" } : Jvm.MethodName) jdk_42_method_149_code (6 : Nat) (Option.none : Option Jvm.ClassFile.FieldType)).before args0 about1 = true := code_word (m := ⟨7, 5⟩) (meth := k7m5) (c := k7c5) (by decide +kernel) rfl rfl rfl (by decide +kernel)
set_option maxRecDepth 65536 in
theorem w_c4 : (Jvm.Cond.code ({ cls := "java/lang/Object", name := "<init>", desc := "()V" } : Jvm.MethodName) object_method_1_code (1 : Nat) (Option.none : Option Jvm.ClassFile.FieldType)).before args0 about1 = true := code_word (m := ⟨0, 0⟩) (meth := k0m0) (c := k0c0) (by decide +kernel) rfl rfl rfl (by decide +kernel)
set_option maxRecDepth 65536 in
theorem w_c5 : (Jvm.Cond.code ({ cls := "com/example/rivulet/rivulet/instrument/PaymentFrequency", name := "unitOf", desc := "(Ljava/lang/String;)Ljava/util/Optional;" } : Jvm.MethodName) prog_34_method_2_code (2 : Nat) (Option.some (Jvm.ClassFile.FieldType.object "java/util/Optional"))).before args0 about1 = true := code_word (m := ⟨9, 0⟩) (meth := k9m0) (c := k9c0) (by decide +kernel) rfl rfl rfl (by decide +kernel)
set_option maxRecDepth 65536 in
theorem w_c6 : (Jvm.Cond.code ({ cls := "java/lang/String", name := "length", desc := "()I" } : Jvm.MethodName) jdk_42_method_54_code (1 : Nat) (Option.some Jvm.ClassFile.FieldType.int)).before args0 about1 = true := code_word (m := ⟨7, 2⟩) (meth := k7m2) (c := k7c2) (by decide +kernel) rfl rfl rfl (by decide +kernel)
set_option maxRecDepth 65536 in
theorem w_c7 : (Jvm.Cond.code ({ cls := "java/lang/String", name := "coder", desc := "()B" } : Jvm.MethodName) jdk_42_method_152_code (1 : Nat) (Option.some Jvm.ClassFile.FieldType.byte)).before args0 about1 = true := code_word (m := ⟨7, 7⟩) (meth := k7m7) (c := k7c7) (by decide +kernel) rfl rfl rfl (by decide +kernel)
set_option maxRecDepth 65536 in
theorem w_c8 : (Jvm.Cond.code ({ cls := "java/util/Optional", name := "ofNullable", desc := "(Ljava/lang/Object;)Ljava/util/Optional;" } : Jvm.MethodName) jdk_32_method_4_code (1 : Nat) (Option.some (Jvm.ClassFile.FieldType.object "java/util/Optional"))).before args0 about1 = true := code_word (m := ⟨10, 1⟩) (meth := k10m1) (c := k10c1) (by decide +kernel) rfl rfl rfl (by decide +kernel)
set_option maxRecDepth 65536 in
theorem w_c9 : (Jvm.Cond.code ({ cls := "com/example/rivulet/rivulet/instrument/PaymentFrequencyUnitOfPinLaw", name := "expected", desc := "(IC)Ljava/time/temporal/ChronoUnit;" } : Jvm.MethodName) method_4_code (2 : Nat) (Option.some (Jvm.ClassFile.FieldType.object "java/time/temporal/ChronoUnit"))).before args0 about1 = true := code_word (m := ⟨1, 3⟩) (meth := k1m3) (c := k1c3) (by decide +kernel) rfl rfl rfl (by decide +kernel)
set_option maxRecDepth 65536 in
theorem w_c10 : (Jvm.Cond.code ({ cls := "java/util/Optional", name := "isPresent", desc := "()Z" } : Jvm.MethodName) jdk_32_method_6_code (1 : Nat) (Option.some Jvm.ClassFile.FieldType.boolean)).before args0 about1 = true := code_word (m := ⟨10, 3⟩) (meth := k10m3) (c := k10c3) (by decide +kernel) rfl rfl rfl (by decide +kernel)
set_option maxRecDepth 65536 in
theorem w_c11 : (Jvm.Cond.code ({ cls := "java/lang/StringUTF16", name := "compress", desc := "([CII)[B" } : Jvm.MethodName) jdk_52_method_16_code (6 : Nat) (Option.some (Jvm.ClassFile.FieldType.array Jvm.ClassFile.FieldType.byte))).before args0 about1 = true := code_word (m := ⟨11, 8⟩) (meth := k11m8) (c := k11c8) (by decide +kernel) rfl rfl rfl (by decide +kernel)
set_option maxRecDepth 65536 in
theorem w_c12 : (Jvm.Cond.code ({ cls := "java/lang/StringUTF16", name := "compress", desc := "([CI[BII)I" } : Jvm.MethodName) jdk_52_method_21_code (7 : Nat) (Option.some Jvm.ClassFile.FieldType.int)).before args0 about1 = true := code_word (m := ⟨11, 9⟩) (meth := k11m9) (c := k11c9) (by decide +kernel) rfl rfl rfl (by decide +kernel)
set_option maxRecDepth 65536 in
theorem w_c13 : (Jvm.Cond.code ({ cls := "java/lang/StringUTF16", name := "coderFromArrayLen", desc := "([BI)B" } : Jvm.MethodName) jdk_52_method_15_code (2 : Nat) (Option.some Jvm.ClassFile.FieldType.byte)).before args0 about1 = true := code_word (m := ⟨11, 7⟩) (meth := k11m7) (c := k11c7) (by decide +kernel) rfl rfl rfl (by decide +kernel)
set_option maxRecDepth 65536 in
theorem w_c14 : (Jvm.Cond.code ({ cls := "java/lang/StringUTF16", name := "toBytes", desc := "([CII)[B" } : Jvm.MethodName) jdk_52_method_14_code (5 : Nat) (Option.some (Jvm.ClassFile.FieldType.array Jvm.ClassFile.FieldType.byte))).before args0 about1 = true := code_word (m := ⟨11, 6⟩) (meth := k11m6) (c := k11c6) (by decide +kernel) rfl rfl rfl (by decide +kernel)
set_option maxRecDepth 65536 in
theorem w_c15 : (Jvm.Cond.code ({ cls := "java/lang/StringUTF16", name := "newBytesFor", desc := "(I)[B" } : Jvm.MethodName) jdk_52_method_2_code (1 : Nat) (Option.some (Jvm.ClassFile.FieldType.array Jvm.ClassFile.FieldType.byte))).before args0 about1 = true := code_word (m := ⟨11, 1⟩) (meth := k11m1) (c := k11c1) (by decide +kernel) rfl rfl rfl (by decide +kernel)
set_option maxRecDepth 65536 in
theorem w_c16 : (Jvm.Cond.code ({ cls := "java/lang/StringUTF16", name := "newBytesLength", desc := "(I)I" } : Jvm.MethodName) jdk_52_method_3_code (1 : Nat) (Option.some Jvm.ClassFile.FieldType.int)).before args0 about1 = true := code_word (m := ⟨11, 2⟩) (meth := k11m2) (c := k11c2) (by decide +kernel) rfl rfl rfl (by decide +kernel)
set_option maxRecDepth 65536 in
theorem w_c17 : (Jvm.Cond.code ({ cls := "java/lang/StringUTF16", name := "putChar", desc := "([BII)V" } : Jvm.MethodName) jdk_52_method_4_code (3 : Nat) (Option.none : Option Jvm.ClassFile.FieldType)).before args0 about1 = true := code_word (m := ⟨11, 3⟩) (meth := k11m3) (c := k11c3) (by decide +kernel) rfl rfl rfl (by decide +kernel)
set_option maxRecDepth 65536 in
theorem w_c18 : (Jvm.Cond.code ({ cls := "java/lang/StringUTF16", name := "getChar", desc := "([BI)C" } : Jvm.MethodName) jdk_52_method_5_code (2 : Nat) (Option.some Jvm.ClassFile.FieldType.char)).before args0 about1 = true := code_word (m := ⟨11, 4⟩) (meth := k11m4) (c := k11c4) (by decide +kernel) rfl rfl rfl (by decide +kernel)
set_option maxRecDepth 65536 in
theorem w_c19 : (Jvm.Cond.code ({ cls := "java/lang/String", name := "valueOf", desc := "(C)Ljava/lang/String;" } : Jvm.MethodName) jdk_42_method_139_code (1 : Nat) (Option.some (Jvm.ClassFile.FieldType.object "java/lang/String"))).before args0 about1 = true := code_word (m := ⟨7, 4⟩) (meth := k7m4) (c := k7c4) (by decide +kernel) rfl rfl rfl (by decide +kernel)
set_option maxRecDepth 65536 in
theorem w_c20 : (Jvm.Cond.code ({ cls := "java/lang/StringLatin1", name := "canEncode", desc := "(C)Z" } : Jvm.MethodName) jdk_43_method_3_code (1 : Nat) (Option.some Jvm.ClassFile.FieldType.boolean)).before args0 about1 = true := code_word (m := ⟨12, 2⟩) (meth := k12m2) (c := k12c2) (by decide +kernel) rfl rfl rfl (by decide +kernel)
set_option maxRecDepth 65536 in
theorem w_c21 : (Jvm.Cond.code ({ cls := "java/lang/StringLatin1", name := "toBytes", desc := "(C)[B" } : Jvm.MethodName) jdk_43_method_46_code (1 : Nat) (Option.some (Jvm.ClassFile.FieldType.array Jvm.ClassFile.FieldType.byte))).before args0 about1 = true := code_word (m := ⟨12, 3⟩) (meth := k12m3) (c := k12c3) (by decide +kernel) rfl rfl rfl (by decide +kernel)
set_option maxRecDepth 65536 in
theorem w_c22 : (Jvm.Cond.code ({ cls := "java/lang/String", name := "<init>", desc := "([BB)V" } : Jvm.MethodName) jdk_42_method_151_code (3 : Nat) (Option.none : Option Jvm.ClassFile.FieldType)).before args0 about1 = true := code_word (m := ⟨7, 6⟩) (meth := k7m6) (c := k7c6) (by decide +kernel) rfl rfl rfl (by decide +kernel)
set_option maxRecDepth 65536 in
theorem w_c23 : (Jvm.Cond.code ({ cls := "java/lang/String", name := "charAt", desc := "(I)C" } : Jvm.MethodName) jdk_42_method_56_code (2 : Nat) (Option.some Jvm.ClassFile.FieldType.char)).before args0 about1 = true := code_word (m := ⟨7, 3⟩) (meth := k7m3) (c := k7c3) (by decide +kernel) rfl rfl rfl (by decide +kernel)
set_option maxRecDepth 65536 in
theorem w_c24 : (Jvm.Cond.code ({ cls := "java/lang/String", name := "isLatin1", desc := "()Z" } : Jvm.MethodName) jdk_42_method_154_code (1 : Nat) (Option.some Jvm.ClassFile.FieldType.boolean)).before args0 about1 = true := code_word (m := ⟨7, 8⟩) (meth := k7m8) (c := k7c8) (by decide +kernel) rfl rfl rfl (by decide +kernel)
set_option maxRecDepth 65536 in
theorem w_c25 : (Jvm.Cond.code ({ cls := "java/lang/StringLatin1", name := "charAt", desc := "([BI)C" } : Jvm.MethodName) jdk_43_method_2_code (2 : Nat) (Option.some Jvm.ClassFile.FieldType.char)).before args0 about1 = true := code_word (m := ⟨12, 1⟩) (meth := k12m1) (c := k12c1) (by decide +kernel) rfl rfl rfl (by decide +kernel)
set_option maxRecDepth 65536 in
theorem w_c26 : (Jvm.Cond.code ({ cls := "java/lang/String", name := "checkIndex", desc := "(II)V" } : Jvm.MethodName) jdk_42_method_155_code (2 : Nat) (Option.none : Option Jvm.ClassFile.FieldType)).before args0 about1 = true := code_word (m := ⟨7, 9⟩) (meth := k7m9) (c := k7c9) (by decide +kernel) rfl rfl rfl (by decide +kernel)
set_option maxRecDepth 65536 in
theorem w_c27 : (Jvm.Cond.code ({ cls := "jdk/internal/util/Preconditions", name := "checkIndex", desc := "(IILjava/util/function/BiFunction;)I" } : Jvm.MethodName) jdk_41_method_11_code (3 : Nat) (Option.some Jvm.ClassFile.FieldType.int)).before args0 about1 = true := code_word (m := ⟨13, 1⟩) (meth := k13m1) (c := k13c1) (by decide +kernel) rfl rfl rfl (by decide +kernel)
set_option maxRecDepth 65536 in
theorem w_c28 : (Jvm.Cond.code ({ cls := "java/lang/StringUTF16", name := "toBytes", desc := "(C)[B" } : Jvm.MethodName) jdk_52_method_24_code (2 : Nat) (Option.some (Jvm.ClassFile.FieldType.array Jvm.ClassFile.FieldType.byte))).before args0 about1 = true := code_word (m := ⟨11, 10⟩) (meth := k11m10) (c := k11c10) (by decide +kernel) rfl rfl rfl (by decide +kernel)
set_option maxRecDepth 65536 in
theorem w_c29 : (Jvm.Cond.code ({ cls := "java/lang/StringUTF16", name := "charAt", desc := "([BI)C" } : Jvm.MethodName) jdk_52_method_83_code (2 : Nat) (Option.some Jvm.ClassFile.FieldType.char)).before args0 about1 = true := code_word (m := ⟨11, 11⟩) (meth := k11m11) (c := k11c11) (by decide +kernel) rfl rfl rfl (by decide +kernel)
set_option maxRecDepth 65536 in
theorem w_c30 : (Jvm.Cond.code ({ cls := "java/lang/StringUTF16", name := "checkIndex", desc := "(I[B)V" } : Jvm.MethodName) jdk_52_method_91_code (2 : Nat) (Option.none : Option Jvm.ClassFile.FieldType)).before args0 about1 = true := code_word (m := ⟨11, 12⟩) (meth := k11m12) (c := k11c12) (by decide +kernel) rfl rfl rfl (by decide +kernel)
set_option maxRecDepth 65536 in
theorem w_c31 : (Jvm.Cond.code ({ cls := "java/lang/StringUTF16", name := "length", desc := "([B)I" } : Jvm.MethodName) jdk_52_method_6_code (1 : Nat) (Option.some Jvm.ClassFile.FieldType.int)).before args0 about1 = true := code_word (m := ⟨11, 5⟩) (meth := k11m5) (c := k11c5) (by decide +kernel) rfl rfl rfl (by decide +kernel)
set_option maxRecDepth 65536 in
theorem w_c32 : (Jvm.Cond.code ({ cls := "java/util/Optional", name := "<init>", desc := "(Ljava/lang/Object;)V" } : Jvm.MethodName) jdk_32_method_2_code (2 : Nat) (Option.none : Option Jvm.ClassFile.FieldType)).before args0 about1 = true := code_word (m := ⟨10, 0⟩) (meth := k10m0) (c := k10c0) (by decide +kernel) rfl rfl rfl (by decide +kernel)
set_option maxRecDepth 65536 in
theorem w_c33 : (Jvm.Cond.code ({ cls := "java/util/Optional", name := "get", desc := "()Ljava/lang/Object;" } : Jvm.MethodName) jdk_32_method_5_code (1 : Nat) (Option.some (Jvm.ClassFile.FieldType.object "java/lang/Object"))).before args0 about1 = true := code_word (m := ⟨10, 2⟩) (meth := k10m2) (c := k10c2) (by decide +kernel) rfl rfl rfl (by decide +kernel)
def codes1 : List Jvm.Cond := [Jvm.Cond.code x code maxLocals ret, Jvm.Cond.code ({ cls := "com/example/rivulet/rivulet/instrument/PaymentFrequencyUnitOfPinLaw", name := "make", desc := "(ICCC)Ljava/lang/String;" } : Jvm.MethodName) method_3_code (4 : Nat) (Option.some (Jvm.ClassFile.FieldType.object "java/lang/String")), Jvm.Cond.code ({ cls := "java/lang/String", name := "<init>", desc := "([C)V" } : Jvm.MethodName) jdk_42_method_3_code (2 : Nat) (Option.none : Option Jvm.ClassFile.FieldType), Jvm.Cond.code ({ cls := "java/lang/String", name := "<init>", desc := "([CIILjava/lang/Void;)V" } : Jvm.MethodName) jdk_42_method_149_code (6 : Nat) (Option.none : Option Jvm.ClassFile.FieldType), Jvm.Cond.code ({ cls := "java/lang/Object", name := "<init>", desc := "()V" } : Jvm.MethodName) object_method_1_code (1 : Nat) (Option.none : Option Jvm.ClassFile.FieldType), Jvm.Cond.code ({ cls := "com/example/rivulet/rivulet/instrument/PaymentFrequency", name := "unitOf", desc := "(Ljava/lang/String;)Ljava/util/Optional;" } : Jvm.MethodName) prog_34_method_2_code (2 : Nat) (Option.some (Jvm.ClassFile.FieldType.object "java/util/Optional")), Jvm.Cond.code ({ cls := "java/lang/String", name := "length", desc := "()I" } : Jvm.MethodName) jdk_42_method_54_code (1 : Nat) (Option.some Jvm.ClassFile.FieldType.int), Jvm.Cond.code ({ cls := "java/lang/String", name := "coder", desc := "()B" } : Jvm.MethodName) jdk_42_method_152_code (1 : Nat) (Option.some Jvm.ClassFile.FieldType.byte), Jvm.Cond.code ({ cls := "java/util/Optional", name := "ofNullable", desc := "(Ljava/lang/Object;)Ljava/util/Optional;" } : Jvm.MethodName) jdk_32_method_4_code (1 : Nat) (Option.some (Jvm.ClassFile.FieldType.object "java/util/Optional")), Jvm.Cond.code ({ cls := "com/example/rivulet/rivulet/instrument/PaymentFrequencyUnitOfPinLaw", name := "expected", desc := "(IC)Ljava/time/temporal/ChronoUnit;" } : Jvm.MethodName) method_4_code (2 : Nat) (Option.some (Jvm.ClassFile.FieldType.object "java/time/temporal/ChronoUnit")), Jvm.Cond.code ({ cls := "java/util/Optional", name := "isPresent", desc := "()Z" } : Jvm.MethodName) jdk_32_method_6_code (1 : Nat) (Option.some Jvm.ClassFile.FieldType.boolean), Jvm.Cond.code ({ cls := "java/lang/StringUTF16", name := "compress", desc := "([CII)[B" } : Jvm.MethodName) jdk_52_method_16_code (6 : Nat) (Option.some (Jvm.ClassFile.FieldType.array Jvm.ClassFile.FieldType.byte)), Jvm.Cond.code ({ cls := "java/lang/StringUTF16", name := "compress", desc := "([CI[BII)I" } : Jvm.MethodName) jdk_52_method_21_code (7 : Nat) (Option.some Jvm.ClassFile.FieldType.int), Jvm.Cond.code ({ cls := "java/lang/StringUTF16", name := "coderFromArrayLen", desc := "([BI)B" } : Jvm.MethodName) jdk_52_method_15_code (2 : Nat) (Option.some Jvm.ClassFile.FieldType.byte), Jvm.Cond.code ({ cls := "java/lang/StringUTF16", name := "toBytes", desc := "([CII)[B" } : Jvm.MethodName) jdk_52_method_14_code (5 : Nat) (Option.some (Jvm.ClassFile.FieldType.array Jvm.ClassFile.FieldType.byte)), Jvm.Cond.code ({ cls := "java/lang/StringUTF16", name := "newBytesFor", desc := "(I)[B" } : Jvm.MethodName) jdk_52_method_2_code (1 : Nat) (Option.some (Jvm.ClassFile.FieldType.array Jvm.ClassFile.FieldType.byte)), Jvm.Cond.code ({ cls := "java/lang/StringUTF16", name := "newBytesLength", desc := "(I)I" } : Jvm.MethodName) jdk_52_method_3_code (1 : Nat) (Option.some Jvm.ClassFile.FieldType.int), Jvm.Cond.code ({ cls := "java/lang/StringUTF16", name := "putChar", desc := "([BII)V" } : Jvm.MethodName) jdk_52_method_4_code (3 : Nat) (Option.none : Option Jvm.ClassFile.FieldType), Jvm.Cond.code ({ cls := "java/lang/StringUTF16", name := "getChar", desc := "([BI)C" } : Jvm.MethodName) jdk_52_method_5_code (2 : Nat) (Option.some Jvm.ClassFile.FieldType.char), Jvm.Cond.code ({ cls := "java/lang/String", name := "valueOf", desc := "(C)Ljava/lang/String;" } : Jvm.MethodName) jdk_42_method_139_code (1 : Nat) (Option.some (Jvm.ClassFile.FieldType.object "java/lang/String")), Jvm.Cond.code ({ cls := "java/lang/StringLatin1", name := "canEncode", desc := "(C)Z" } : Jvm.MethodName) jdk_43_method_3_code (1 : Nat) (Option.some Jvm.ClassFile.FieldType.boolean), Jvm.Cond.code ({ cls := "java/lang/StringLatin1", name := "toBytes", desc := "(C)[B" } : Jvm.MethodName) jdk_43_method_46_code (1 : Nat) (Option.some (Jvm.ClassFile.FieldType.array Jvm.ClassFile.FieldType.byte)), Jvm.Cond.code ({ cls := "java/lang/String", name := "<init>", desc := "([BB)V" } : Jvm.MethodName) jdk_42_method_151_code (3 : Nat) (Option.none : Option Jvm.ClassFile.FieldType), Jvm.Cond.code ({ cls := "java/lang/String", name := "charAt", desc := "(I)C" } : Jvm.MethodName) jdk_42_method_56_code (2 : Nat) (Option.some Jvm.ClassFile.FieldType.char), Jvm.Cond.code ({ cls := "java/lang/String", name := "isLatin1", desc := "()Z" } : Jvm.MethodName) jdk_42_method_154_code (1 : Nat) (Option.some Jvm.ClassFile.FieldType.boolean), Jvm.Cond.code ({ cls := "java/lang/StringLatin1", name := "charAt", desc := "([BI)C" } : Jvm.MethodName) jdk_43_method_2_code (2 : Nat) (Option.some Jvm.ClassFile.FieldType.char), Jvm.Cond.code ({ cls := "java/lang/String", name := "checkIndex", desc := "(II)V" } : Jvm.MethodName) jdk_42_method_155_code (2 : Nat) (Option.none : Option Jvm.ClassFile.FieldType), Jvm.Cond.code ({ cls := "jdk/internal/util/Preconditions", name := "checkIndex", desc := "(IILjava/util/function/BiFunction;)I" } : Jvm.MethodName) jdk_41_method_11_code (3 : Nat) (Option.some Jvm.ClassFile.FieldType.int), Jvm.Cond.code ({ cls := "java/lang/StringUTF16", name := "toBytes", desc := "(C)[B" } : Jvm.MethodName) jdk_52_method_24_code (2 : Nat) (Option.some (Jvm.ClassFile.FieldType.array Jvm.ClassFile.FieldType.byte)), Jvm.Cond.code ({ cls := "java/lang/StringUTF16", name := "charAt", desc := "([BI)C" } : Jvm.MethodName) jdk_52_method_83_code (2 : Nat) (Option.some Jvm.ClassFile.FieldType.char), Jvm.Cond.code ({ cls := "java/lang/StringUTF16", name := "checkIndex", desc := "(I[B)V" } : Jvm.MethodName) jdk_52_method_91_code (2 : Nat) (Option.none : Option Jvm.ClassFile.FieldType), Jvm.Cond.code ({ cls := "java/lang/StringUTF16", name := "length", desc := "([B)I" } : Jvm.MethodName) jdk_52_method_6_code (1 : Nat) (Option.some Jvm.ClassFile.FieldType.int), Jvm.Cond.code ({ cls := "java/util/Optional", name := "<init>", desc := "(Ljava/lang/Object;)V" } : Jvm.MethodName) jdk_32_method_2_code (2 : Nat) (Option.none : Option Jvm.ClassFile.FieldType), Jvm.Cond.code ({ cls := "java/util/Optional", name := "get", desc := "()Ljava/lang/Object;" } : Jvm.MethodName) jdk_32_method_5_code (1 : Nat) (Option.some (Jvm.ClassFile.FieldType.object "java/lang/Object"))]
set_option maxRecDepth 65536 in
theorem codes_eq : words1.filter isCode = codes1 := rfl
theorem w_codes : ∀ c ∈ words1.filter isCode, c.before args0 about1 = true := by
  rw [codes_eq]
  intro c hc
  simp only [codes1, List.mem_cons, List.not_mem_nil, or_false] at hc
  rcases hc with rfl | rfl | rfl | rfl | rfl | rfl | rfl | rfl | rfl | rfl | rfl | rfl | rfl | rfl | rfl | rfl | rfl | rfl | rfl | rfl | rfl | rfl | rfl | rfl | rfl | rfl | rfl | rfl | rfl | rfl | rfl | rfl | rfl | rfl
  · exact w_c0
  · exact w_c1
  · exact w_c2
  · exact w_c3
  · exact w_c4
  · exact w_c5
  · exact w_c6
  · exact w_c7
  · exact w_c8
  · exact w_c9
  · exact w_c10
  · exact w_c11
  · exact w_c12
  · exact w_c13
  · exact w_c14
  · exact w_c15
  · exact w_c16
  · exact w_c17
  · exact w_c18
  · exact w_c19
  · exact w_c20
  · exact w_c21
  · exact w_c22
  · exact w_c23
  · exact w_c24
  · exact w_c25
  · exact w_c26
  · exact w_c27
  · exact w_c28
  · exact w_c29
  · exact w_c30
  · exact w_c31
  · exact w_c32
  · exact w_c33
set_option maxRecDepth 65536 in
theorem w_t1 : (words1.take 24).all (fun c => isCode c || c.before args0 about1) = true := by decide +kernel
set_option maxRecDepth 65536 in
theorem w_t2 : ((words1.drop 24).take 24).all (fun c => isCode c || c.before args0 about1) = true := by decide +kernel
set_option maxRecDepth 65536 in
theorem w_t3 : (((words1.drop 24).drop 24).take 24).all (fun c => isCode c || c.before args0 about1) = true := by decide +kernel
set_option maxRecDepth 65536 in
theorem w_t4 : ((((words1.drop 24).drop 24).drop 24).take 24).all (fun c => isCode c || c.before args0 about1) = true := by decide +kernel
set_option maxRecDepth 65536 in
theorem w_t5 : (((((words1.drop 24).drop 24).drop 24).drop 24).take 24).all (fun c => isCode c || c.before args0 about1) = true := by decide +kernel
set_option maxRecDepth 65536 in
theorem w_t6 : ((((((words1.drop 24).drop 24).drop 24).drop 24).drop 24).take 24).all (fun c => isCode c || c.before args0 about1) = true := by decide +kernel
set_option maxRecDepth 65536 in
theorem w_t7 : ((((((words1.drop 24).drop 24).drop 24).drop 24).drop 24).drop 24).all (fun c => isCode c || c.before args0 about1) = true := by decide +kernel
theorem w_tables : (allAtoms (Jvm.Cond.code x code maxLocals ret :: tables_1)).before args0 about1 = true := by
  rw [allAtoms_all]
  show words1.all (fun c => c.before args0 about1) = true
  refine all_split ?_ w_codes
  rw [← List.take_append_drop 24 words1, List.all_append, w_t1, ← List.take_append_drop 24 (words1.drop 24), List.all_append, w_t2, ← List.take_append_drop 24 ((words1.drop 24).drop 24), List.all_append, w_t3, ← List.take_append_drop 24 (((words1.drop 24).drop 24).drop 24), List.all_append, w_t4, ← List.take_append_drop 24 ((((words1.drop 24).drop 24).drop 24).drop 24), List.all_append, w_t5, ← List.take_append_drop 24 (((((words1.drop 24).drop 24).drop 24).drop 24).drop 24), List.all_append, w_t6, w_t7]
  rfl
set_option maxRecDepth 65536 in
theorem w_rest : rest_1_c.before args0 about1 = true := by decide +kernel
set_option maxRecDepth 65536 in
theorem w_case : (Jvm.Cond.and given_1 narrow_1).before args0 about1 = true := by decide +kernel
set_option maxRecDepth 65536 in
theorem w_consts : constsHeld consts_1 about1 := Jvm.Lit.constsHeldB_iff.mp (by decide +kernel)
theorem w_applies : (headSpec (Jvm.Cond.code x code maxLocals ret :: tables_1) room_1).applies x e0.platform about1 = true :=
  (Spec.applies_iff w_frames).mpr ⟨w_running, w_runnable, w_alone, w_named, w_hears, w_ripe, w_room, w_tables⟩
theorem atStart : AtStart classFile x code maxLocals ret World_1 tables_1 room_1 Calls_1 rest_1 Pre_1 launch0 p0 e0 about1 theMethod args0 below0 :=
  ⟨lists_1, trivial, launch0.admits_env _ _ _, launch0.least_env, fairChoices_fair.cas, fairChoices_fair.clock, w_frames, w_args, w_heap, w_applies, ⟨w_consts, trivial⟩, w_rest, w_case⟩
end start1
theorem witness_1 : WitnessClaimed_1 := ⟨start1.p0, start1.e0, start1.about1, start1.theMethod, start1.args0, start1.below0, start1.atStart⟩
end Jvm.Pilot.@@N@@
