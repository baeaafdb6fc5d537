import JvmDerived
import JvmDerived.Pilot.@@N@@Statement
import JvmDerived.Pilot.@@N@@Code
set_option linter.unusedVariables false
set_option linter.unusedSimpArgs false

namespace Jvm.RoadKit
open Sem ClassFile Op Lib Jvm.Stand Jvm.Free Jvm.LawKit
section OwnKit
variable {p : Program} {l : Launch} {e : Env} {R : Room} {s : State} {m : MethodId} {args : Array Value} {below : List Frame} {meth : Method} {c : Code} {T : State} {locs : List Loc} {cells slots : Nat} {Z : State} {a0 : Array Value} {h : Heap}
/-- one for a truth, nought else -/
def own_bi (q : Prop) [Decidable q] : Int32 := if q then 1 else 0
theorem own_bi_t {q : Prop} [Decidable q] (h : q) : own_bi q = 1 := if_pos h
theorem own_bi_f {q : Prop} [Decidable q] (h : ¬ q) : own_bi q = 0 := if_neg h
theorem own_bi_01 (q : Prop) [Decidable q] : own_bi q = 0 ∨ own_bi q = 1 := by unfold own_bi; split <;> simp
theorem own_bi_0 {q : Prop} [Decidable q] : own_bi q = 0 ↔ ¬ q := by unfold own_bi; split <;> simp_all
theorem own_bi_1 {q : Prop} [Decidable q] : own_bi q = 1 ↔ q := by unfold own_bi; split <;> simp_all
theorem own_bi_eq {q r : Prop} [Decidable q] [Decidable r] : own_bi q = own_bi r ↔ (q ↔ r) := by unfold own_bi; split <;> split <;> simp_all
theorem own_bi_fits (q : Prop) [Decidable q] : fits .boolean (.int (own_bi q)) = true := by unfold own_bi; split <;> rfl
theorem own_bi_nar (q : Prop) [Decidable q] : narrow .boolean (.int (own_bi q)) = .int (own_bi q) := by unfold own_bi; split <;> rfl
/-- from U the invocation comes to an end of which Rr holds -/
def Gl (p : Program) (e : Env) (below : List Frame) (Rr : State → Outcome → Prop) (U : State) : Prop := ∃ s₂ o, Steps p.tables e below U s₂ ∧ Rr s₂ o
theorem Gl.st {Rr : State → Outcome → Prop} {U U' : State} (f : ∀ t, Steps p.tables e below U' t → Steps p.tables e below U t) (g : Gl p e below Rr U') : Gl p e below Rr U := by
  obtain ⟨a, b, h1, h2⟩ := g
  exact ⟨a, b, f _ h1, h2⟩
/-- what is asked of the end -/
def Rq (s : State) (below : List Frame) (QQ : Option Value → Heap → List Loc → Prop) (k n : Nat) (s₂ : State) (o : Outcome) : Prop := s₂.status = .running ∧ Ended s₂ below o ∧ ∃ v L, o = .returned v ∧ QQ v s₂.heap L ∧ FrameEnd s o s₂ L k n
theorem Gl.join {Rr : State → Outcome → Prop} {U : State} {α : Type} (P : α → Prop) (f : α → State) (k : (∀ b, P b → Gl p e below Rr (f b)) → Gl p e below Rr U) (j : ∀ b, P b → Gl p e below Rr (f b)) : Gl p e below Rr U := k j
theorem Gl.joinS (X : Stand p l e R s m args below meth c T locs cells slots) {Rr : State → Outcome → Prop} {U : State} {β : Type} (kc ks : Nat) (P : State → List Loc → β → Prop) (f : State → β → State)
    (k : (∀ T' locs' b, Stand p l e R s m args below meth c T' locs' kc ks → P T' locs' b → Gl p e below Rr (f T' b)) → Gl p e below Rr U) (j : ∀ T' locs' b, Stand p l e R s m args below meth c T' locs' kc ks → P T' locs' b → Gl p e below Rr (f T' b)) : Gl p e below Rr U := k j
/-- a cell of the machine's own kind isn't there -/
def own_K (h : Heap) (a : Addr) : Prop := ∃ cell : Cell, h[a]? = some cell ∧ cell.vm ≠ .unknown
theorem own_K_wr {h h' : Heap} {a b : Addr} {sl : Nat} {v : Value} (W : Wr h h' a sl v) (F : own_K h b) : own_K h' b := by
  obtain ⟨cell, h1, h2⟩ := F
  obtain ⟨c', e1, -, e3, -⟩ := wr_at W h1
  exact ⟨c', e1, by rw [e3]; exact h2⟩
theorem own_K_ext {h h' : Heap} {b : Addr} (E : Ext h h') (F : own_K h b) : own_K h' b := by
  obtain ⟨cell, h1, h2⟩ := F
  exact ⟨cell, E.2 _ _ h1, h2⟩
theorem own_K_keep {h h' : Heap} {b : Addr} {ws : List Addr} (K : Keep h h' ws) (F : own_K h b) : own_K h' b := by
  obtain ⟨cell, h1, h2⟩ := F
  obtain ⟨c', q, -, r2, -⟩ := K.2.2 b cell h1
  exact ⟨c', q, by rw [r2]; exact h2⟩
theorem own_K_new {h : Heap} {a : Addr} (F : ∃ cell : Cell, h[a]? = some cell ∧ cell.vm = .none ∧ cell.monitor = {}) : own_K h a := by
  obtain ⟨cell, h1, h2, -⟩ := F
  exact ⟨cell, h1, by rw [h2]; simp⟩
theorem own_K_fld {h : Heap} {a : Addr} {C n d : String} {v : Value} (F : Fld Z h a C n d v) : own_K h a := by
  obtain ⟨cell, _, _, _, _, h1, -, -, h4, -⟩ := F
  exact ⟨cell, h1, h4⟩
/-- the type that a descriptor names -/
def own_ty (d : String) : FieldType := (parseFieldDescriptor d).getD .int
theorem own_ty_eq {d : String} (h : (parseFieldDescriptor d).isSome = true) : parseFieldDescriptor d = some (own_ty d) := by
  unfold own_ty
  cases q : parseFieldDescriptor d with
  | none => rw [q] at h; cases h
  | some t => rfl
theorem own_nn {t : FieldType} : narrow t .null = .null := by cases t <;> rfl
theorem own_lenOf {d : String} {n : Nat} (hd : (parseMethodDescriptor d).map (fun s => s.parameters.length) = some n) {L : List Value} (hl : L.length = n) : ∀ sig, parseMethodDescriptor d = some sig → L.length = sig.parameters.length := fun sig h => by
  rw [h] at hd
  rw [hl]
  exact (Option.some.inj hd).symm
theorem own_nz {z : Int32} (h : z = 0 ∨ z = 1) : narrow .boolean (.int z) = .int z := by rcases h with rfl | rfl <;> rfl
theorem own_fz {z : Int32} (h : z = 0 ∨ z = 1) : fits .boolean (.int z) = true := by rcases h with rfl | rfl <;> rfl
theorem own_nr {v : Value} {C : String} : narrow (.object C) v = v := by cases v <;> rfl
theorem own_fr {v : Value} {C : String} (h : v.isRef = true) : fits (.object C) v = true := by rcases ref_cases h with rfl | ⟨a, rfl⟩ <;> rfl
theorem own_cat1 {v : Value} (h : v.isRef = true) : v.category = 1 := by cases v <;> first | rfl | simp_all [Value.isRef]
theorem Gl.fin (X : Stand p l e R s m args below meth c T locs cells slots) {v : Option Value} (hv : meth.sig.returnType = none → v = none) (hlk : meth.locks = false) {QQ : Option Value → Heap → List Loc → Prop} {k n : Nat} {g : JFrame}
    (hst : ∀ fs, (∀ (f : JFrame) (acts : List Action), f.method = m → f.locked = none → f.entered = [] → (doReturn e (T.setTop f) acts v).1 = T.setFrames fs) → Steps p.tables e below (T.setTop g) (T.setFrames fs))
    (hq : QQ v T.heap locs) (hk : cells ≤ k) (hn : slots ≤ n) : Gl p e below (Rq s below QQ k n) (T.setTop g) := by
  obtain ⟨fs, hr, hrun, hended, hW, hsame⟩ := X.leave (v := v) hv hlk
  exact ⟨_, _, hst fs hr, hrun, hended, v, locs, rfl, hq, ⟨v, rfl⟩, hW, hsame.mono hk hn⟩
theorem Gl.retW (X : Stand p l e R s m args below meth c T locs cells slots) (hx : p.tables.exec = Jvm.exec) {t : FieldType} (hret : meth.sig.returnType = some t) (hlk : meth.locks = false) {pc : Nat} {Ls : Array Slot} {w : Value} {i : Instr} {rest : List Value} (hn : narrow t w = w)
    (hi : (i = .ireturn ∧ (t = .int ∨ t = .boolean ∨ t = .byte ∨ t = .char ∨ t = .short) ∧ ∃ z, w = .int z) ∨ (i = .lreturn ∧ t = .long ∧ ∃ z, w = .long z) ∨ (i = .dreturn ∧ t = .double ∧ ∃ z, w = .double z) ∨ (i = .freturn ∧ t = .float ∧ ∃ z, w = .float z) ∨ (i = .areturn ∧ t.isReference = true ∧ w.isRef = true))
    (hd : decode c.code pc = .ok (i, 1)) {QQ : Option Value → Heap → List Loc → Prop} {k n : Nat} (hq : QQ (some w) T.heap locs) (hk : cells ≤ k) (hs : slots ≤ n) : Gl p e below (Rq s below QQ k n) (T.setTop (mkF m pc Ls (w :: rest))) :=
  Gl.fin X (fun q => by rw [hret] at q; cases q) hlk (fun _ hr => retOut X hx hret hn hi hd hr) hq hk hs
theorem Gl.retZ (X : Stand p l e R s m args below meth c T locs cells slots) (hx : p.tables.exec = Jvm.exec) (hret : meth.sig.returnType = some .boolean) (hlk : meth.locks = false) {pc : Nat} {Ls : Array Slot} {z : Int32} {rest : List Value}
    (hd : decode c.code pc = .ok (.ireturn, 1)) (hz : z = 0 ∨ z = 1) {QQ : Option Value → Heap → List Loc → Prop} {k n : Nat} (hq : QQ (some (.int z)) T.heap locs) (hk : cells ≤ k) (hs : slots ≤ n) : Gl p e below (Rq s below QQ k n) (T.setTop (mkF m pc Ls (.int z :: rest))) :=
  Gl.retW X hx hret hlk (by rcases hz with rfl | rfl <;> rfl) (Or.inl ⟨rfl, by simp, z, rfl⟩) hd hq hk hs
theorem Gl.retI (X : Stand p l e R s m args below meth c T locs cells slots) (hx : p.tables.exec = Jvm.exec) (hret : meth.sig.returnType = some .int) (hlk : meth.locks = false) {pc : Nat} {Ls : Array Slot} {z : Int32} {rest : List Value}
    (hd : decode c.code pc = .ok (.ireturn, 1)) {QQ : Option Value → Heap → List Loc → Prop} {k n : Nat} (hq : QQ (some (.int z)) T.heap locs) (hk : cells ≤ k) (hs : slots ≤ n) : Gl p e below (Rq s below QQ k n) (T.setTop (mkF m pc Ls (.int z :: rest))) :=
  Gl.retW X hx hret hlk rfl (Or.inl ⟨rfl, by simp, z, rfl⟩) hd hq hk hs
theorem Gl.retJ (X : Stand p l e R s m args below meth c T locs cells slots) (hx : p.tables.exec = Jvm.exec) (hret : meth.sig.returnType = some .long) (hlk : meth.locks = false) {pc : Nat} {Ls : Array Slot} {z : Int64} {rest : List Value}
    (hd : decode c.code pc = .ok (.lreturn, 1)) {QQ : Option Value → Heap → List Loc → Prop} {k n : Nat} (hq : QQ (some (.long z)) T.heap locs) (hk : cells ≤ k) (hs : slots ≤ n) : Gl p e below (Rq s below QQ k n) (T.setTop (mkF m pc Ls (.long z :: rest))) :=
  Gl.retW X hx hret hlk rfl (Or.inr (Or.inl ⟨rfl, rfl, z, rfl⟩)) hd hq hk hs
theorem Gl.retA (X : Stand p l e R s m args below meth c T locs cells slots) (hx : p.tables.exec = Jvm.exec) {t : FieldType} (hret : meth.sig.returnType = some t) (ht : t.isReference = true) (hlk : meth.locks = false) {pc : Nat} {Ls : Array Slot} {w : Value} {rest : List Value} (hw : w.isRef = true)
    (hd : decode c.code pc = .ok (.areturn, 1)) {QQ : Option Value → Heap → List Loc → Prop} {k n : Nat} (hq : QQ (some w) T.heap locs) (hk : cells ≤ k) (hs : slots ≤ n) : Gl p e below (Rq s below QQ k n) (T.setTop (mkF m pc Ls (w :: rest))) :=
  Gl.retW X hx hret hlk (by cases t <;> first | rfl | cases ht) (Or.inr (Or.inr (Or.inr (Or.inr ⟨rfl, ht, hw⟩)))) hd hq hk hs
theorem Gl.retV (X : Stand p l e R s m args below meth c T locs cells slots) (hx : p.tables.exec = Jvm.exec) (hret : meth.sig.returnType = none) (hlk : meth.locks = false) {pc : Nat} {Ls : Array Slot}
    (hd : decode c.code pc = .ok (.return_, 1)) {QQ : Option Value → Heap → List Loc → Prop} {k n : Nat} (hq : QQ none T.heap locs) (hk : cells ≤ k) (hs : slots ≤ n) : Gl p e below (Rq s below QQ k n) (T.setTop (mkF m pc Ls [])) :=
  Gl.fin X (fun _ => rfl) hlk (fun _ hr => X.returnOut hx hret hd hr) hq hk hs
/-- what a body does from the heap h0 with these arguments -/
def Con (ws : List Cond) (l : Launch) (Z : State) (y : MethodName) (bytes : ByteArray) (maxL : Nat) (ret : Option FieldType) (rm : Room) (as' : Array Value) (h0 : Heap) (QQ : Option Value → Heap → List Loc → Prop) : Prop :=
  MetFree l y (head1 (Cond.code y bytes maxL ret :: ws) rm) (fun a U => a = as' ∧ Z.Warmed39 U.vm ∧ U.heap = h0) (fun _ _ _ _ _ => True) (fun _ U o U' => ∃ v L, o = .returned v ∧ QQ v U'.heap L ∧ FrameEnd U o U' L rm.cells rm.slots)
theorem Con.of {ws : List Cond} {l : Launch} {Z : State} {y : MethodName} {bytes : ByteArray} {maxL : Nat} {ret : Option FieldType} {rm : Room} {as' : Array Value} {h0 : Heap} {QQ : Option Value → Heap → List Loc → Prop} {Ls : Array Slot}
    (hp : plainFor y = true) (ef : ∀ m : MethodId, entryFrame m as' maxL = mkF m 0 Ls [])
    (body : ∀ (p : Program) (e : Env) (s : State) (m : MethodId) (below : List Frame) (meth : Method) (c : Code) (T : State), p.tables.exec = Jvm.exec → c.code = bytes → c.maxLocals = maxL → s.vm.findClass y.cls = some m.cls → meth.name = y.name → meth.sig.returnType = ret → meth.locks = false → Z.Warmed39 s.vm → T.heap = h0 → Stand p l e rm s m as' below meth c T [] 0 0 →
      Gl p e below (Rq s below QQ rm.cells rm.slots) (T.setTop (mkF m 0 Ls []))) : Con ws l Z y bytes maxL ret rm as' h0 QQ := by
  refine MetFree.of_bodySF hp hisR ?_
  intro p e s m args below meth c s₁ Bd hml0 hP hK
  obtain ⟨rfl, hZ, hh⟩ := hP
  obtain ⟨s₂, o, h1, h2, h3, h4⟩ := body p e s m below meth c s₁ Bd.exec Bd.bytes hml0 (findClass_of_methodNamed Bd.named) (name_of_methodNamed Bd.named Bd.method).1 Bd.returns Bd.notSynchronized hZ (by rw [← hh, Bd.state]; rfl) (Stand.of_body Bd)
  exact ⟨s₂, o, castTop (ef m) h1, h2, h3, h4⟩
theorem gCallS (X : Stand p l e R s m args below meth c T locs cells slots) (hx : p.tables.exec = Jvm.exec) (hZ : Z.Warmed39 s.vm) {own : String} {index : Nat} {y : MethodName} {bytes : ByteArray} {maxL : Nat} {ret : Option FieldType} (hown : s.vm.findClass own = some m.cls)
    (w1 : (Cond.methodLink own index y).before a0 Z = true) (w2 : (Cond.static y).before a0 Z = true) (w3 : (Cond.initialized y.cls).before a0 Z = true) (w4 : (Cond.code y bytes maxL ret).before a0 Z = true) (hy : y.cls ≠ "java/lang/invoke/MethodHandle" ∧ y.cls ≠ "java/lang/invoke/VarHandle")
    {rm : Room} {as' : Array Value} {QQ : Option Value → Heap → List Loc → Prop} (hC : Con [] l Z y bytes maxL ret rm as' h QQ) (eT : T.heap = h) (hf : rm.frames + 1 ≤ R.frames) {W : Nat} (hl : W + (maxL + 11) + rm.locals ≤ R.locals) (hc : cells + rm.cells ≤ R.cells) (hs : slots + rm.slots ≤ R.slots)
    {g : JFrame} (hg : g.method = m) (hsize : g.locals.size = c.maxLocals) {argsL rest : List Value} (hlen : ∀ sig, parseMethodDescriptor y.desc = some sig → argsL.length = sig.parameters.length) (hstack : g.stack = argsL.reverse ++ rest) (has : argsL.toArray = as') (hW : 2 * g.monitorRoom + (rest.map fun v => v.category).sum ≤ W) (hd : decode c.code g.pc = .ok (.invokestatic index, 3))
    {Rr : State → Outcome → Prop} (k : ∀ (v : Option Value) (T' : State) (L : List Loc), Stand p l e R s m args below meth c T' (locs ++ L) (cells + rm.cells) (slots + rm.slots) → QQ v T'.heap L → Gl p e below Rr (T'.setTop { g with pc := g.pc + 3, stack := v.toList ++ rest })) : Gl p e below Rr (T.setTop g) := by
  obtain ⟨v, vm₁, ⟨T', L', c', n'⟩, -, X', ⟨L, hQ, q1, q2, q3⟩, st⟩ := Jvm.LawKit.callS X hx (y := y) hown (mvT hZ w1) (mvT hZ w2) (mvT hZ w3) (mvT hZ w4) hy (backOf (W := W) hC hZ w4 w3 hf hl) hg hsize hlen hstack hW hd (fun _ _ => ⟨has, eT, hc, hs⟩)
  dsimp only [Pt.U, Pt.locs, Pt.cells, Pt.slots] at X' q1 q2 q3 st hQ
  subst q1 q2 q3
  exact Gl.st st (k v T' L X' hQ)
theorem gCallI (X : Stand p l e R s m args below meth c T locs cells slots) (hx : p.tables.exec = Jvm.exec) (hZ : Z.Warmed39 s.vm) {own : String} {index : Nat} {y : MethodName} {bytes : ByteArray} {maxL : Nat} (hy1 : y.name = "<init>") (hown : s.vm.findClass own = some m.cls)
    (w1 : (Cond.methodLink own index y).before a0 Z = true) (w2 : (Cond.instanceMethod y).before a0 Z = true) (w3 : (Cond.initialized y.cls).before a0 Z = true) (w4 : (Cond.code y bytes maxL none).before a0 Z = true) (hy : y.cls ≠ "java/lang/invoke/MethodHandle" ∧ y.cls ≠ "java/lang/invoke/VarHandle")
    {rm : Room} {as' : Array Value} {QQ : Option Value → Heap → List Loc → Prop} (hC : Con [] l Z y bytes maxL none rm as' h QQ) (eT : T.heap = h) (hf : rm.frames + 1 ≤ R.frames) {W : Nat} (hl : W + (maxL + 11) + rm.locals ≤ R.locals) (hc : cells + rm.cells ≤ R.cells) (hs : slots + rm.slots ≤ R.slots)
    {g : JFrame} (hg : g.method = m) (hsize : g.locals.size = c.maxLocals) {a : Addr} {argsL rest : List Value} (hlen : ∀ sig, parseMethodDescriptor y.desc = some sig → argsL.length = sig.parameters.length) (hstack : g.stack = argsL.reverse ++ .ref a :: rest) (has : (.ref a :: argsL).toArray = as') (hW : 2 * g.monitorRoom + (rest.map fun v => v.category).sum ≤ W) (hd : decode c.code g.pc = .ok (.invokespecial index, 3))
    {Rr : State → Outcome → Prop} (k : ∀ (v : Option Value) (T' : State) (L : List Loc), Stand p l e R s m args below meth c T' (locs ++ L) (cells + rm.cells) (slots + rm.slots) → QQ v T'.heap L → Gl p e below Rr (T'.setTop { g with pc := g.pc + 3, stack := v.toList ++ rest })) : Gl p e below Rr (T.setTop g) := by
  obtain ⟨v, vm₁, ⟨T', L', c', n'⟩, -, X', ⟨L, hQ, q1, q2, q3⟩, st⟩ := X.specialBack hx (y := y) hy1 hown (mvT hZ w1) (mvT hZ w2) (mvT hZ w4) hy (backOf (W := W) hC hZ w4 w3 hf hl) hg hsize (Steps.refl _) hlen hstack hW hd (fun _ _ => ⟨has, eT, hc, hs⟩)
  dsimp only [Pt.U, Pt.locs, Pt.cells, Pt.slots] at X' q1 q2 q3 st hQ
  subst q1 q2 q3
  exact Gl.st (fun _ kk => st.trans kk) (k v T' L X' hQ)
/-- a constructor, paid by a Back of the shape that backOf and the pasted String laws have -/
theorem gBackI (X : Stand p l e R s m args below meth c T locs cells slots) (hx : p.tables.exec = Jvm.exec) (hZ : Z.Warmed39 s.vm) {own : String} {index : Nat} {y : MethodName} {bytes : ByteArray} {maxL : Nat} (hy1 : y.name = "<init>") (hown : s.vm.findClass own = some m.cls)
    (w1 : (Cond.methodLink own index y).before a0 Z = true) (w2 : (Cond.instanceMethod y).before a0 Z = true) (w4 : (Cond.code y bytes maxL none).before a0 Z = true) (hy : y.cls ≠ "java/lang/invoke/MethodHandle" ∧ y.cls ≠ "java/lang/invoke/VarHandle")
    {kc ks W : Nat} {as' : Array Value} {QQ : Option Value → Heap → List Loc → Prop} (hK : Back l R p e below s args y 3 W (fun A a => a = as' ∧ A.U.heap = h ∧ A.cells + kc ≤ R.cells ∧ A.slots + ks ≤ R.slots) (fun A _ v B => ∃ L, QQ v B.U.heap L ∧ B.locs = A.locs ++ L ∧ B.cells = A.cells + kc ∧ B.slots = A.slots + ks)) (eT : T.heap = h) (hc : cells + kc ≤ R.cells) (hs : slots + ks ≤ R.slots)
    {g : JFrame} (hg : g.method = m) (hsize : g.locals.size = c.maxLocals) {a : Addr} {argsL rest : List Value} (hlen : ∀ sig, parseMethodDescriptor y.desc = some sig → argsL.length = sig.parameters.length) (hstack : g.stack = argsL.reverse ++ .ref a :: rest) (has : (.ref a :: argsL).toArray = as') (hW : 2 * g.monitorRoom + (rest.map fun v => v.category).sum ≤ W) (hd : decode c.code g.pc = .ok (.invokespecial index, 3))
    {Rr : State → Outcome → Prop} (k : ∀ (v : Option Value) (T' : State) (L : List Loc), Stand p l e R s m args below meth c T' (locs ++ L) (cells + kc) (slots + ks) → QQ v T'.heap L → Gl p e below Rr (T'.setTop { g with pc := g.pc + 3, stack := v.toList ++ rest })) : Gl p e below Rr (T.setTop g) := by
  obtain ⟨v, vm₁, ⟨T', L', c', n'⟩, -, X', ⟨L, hQ, q1, q2, q3⟩, st⟩ := X.specialBack hx (y := y) hy1 hown (mvT hZ w1) (mvT hZ w2) (mvT hZ w4) hy hK hg hsize (Steps.refl _) hlen hstack hW hd (fun _ _ => ⟨has, eT, hc, hs⟩)
  dsimp only [Pt.U, Pt.locs, Pt.cells, Pt.slots] at X' q1 q2 q3 st hQ
  subst q1 q2 q3
  exact Gl.st (fun _ kk => st.trans kk) (k v T' L X' hQ)
/-- the class of y is no interface: some call lands in a method of hers -/
theorem own_nf {s : State} {args : Array Value} {y x' z' : MethodName} {C' : String} (w : (Cond.selects C' x' z').before args s = true) (hc : z'.cls = y.cls) : NotFace s y := fun r0 h0 => by
  obtain ⟨c2, r2, m2, -, -, q3, -, kP, hkP, hkPi⟩ := Cond.selects_spec w
  have h1 := findClass_of_methodNamed h0
  have h2 := findClass_of_methodNamed q3
  rw [hc] at h2
  have q := Option.some.inj (h1.symm.trans h2)
  exact ⟨kP, by rw [q]; exact hkP, hkPi⟩
theorem gCallV (X : Stand p l e R s m args below meth c T locs cells slots) (hx : p.tables.exec = Jvm.exec) (hZ : Z.Warmed39 s.vm) {own C : String} {index : Nat} {y z : MethodName} {bytes : ByteArray} {maxL : Nat} {ret : Option FieldType} (hown : s.vm.findClass own = some m.cls)
    (w1 : (Cond.methodLink own index y).before a0 Z = true) (w2 : (Cond.declares y).before a0 Z = true) (w3 : (Cond.selects C y z).before a0 Z = true) (hnf : NotFace s y) (w4 : (Cond.instanceMethod z).before a0 Z = true) (w5 : (Cond.initialized z.cls).before a0 Z = true) (w6 : (Cond.code z bytes maxL ret).before a0 Z = true) (hy : y.cls ≠ "java/lang/invoke/MethodHandle" ∧ y.cls ≠ "java/lang/invoke/VarHandle")
    {rm : Room} {as' : Array Value} {QQ : Option Value → Heap → List Loc → Prop} (hC : Con [] l Z z bytes maxL ret rm as' h QQ) (eT : T.heap = h) {a : Addr} (E : Exa Z h a C) (hf : rm.frames + 1 ≤ R.frames) {W : Nat} (hl : W + (maxL + 11) + rm.locals ≤ R.locals) (hc : cells + rm.cells ≤ R.cells) (hs : slots + rm.slots ≤ R.slots)
    {g : JFrame} (hg : g.method = m) (hsize : g.locals.size = c.maxLocals) {argsL rest : List Value} (hlen : ∀ sig, parseMethodDescriptor y.desc = some sig → argsL.length = sig.parameters.length) (hstack : g.stack = argsL.reverse ++ .ref a :: rest) (has : (.ref a :: argsL).toArray = as') (hW : 2 * g.monitorRoom + (rest.map fun v => v.category).sum ≤ W) (hd : decode c.code g.pc = .ok (.invokevirtual index, 3))
    {Rr : State → Outcome → Prop} (k : ∀ (v : Option Value) (T' : State) (L : List Loc), Stand p l e R s m args below meth c T' (locs ++ L) (cells + rm.cells) (slots + rm.slots) → QQ v T'.heap L → Gl p e below Rr (T'.setTop { g with pc := g.pc + 3, stack := v.toList ++ rest })) : Gl p e below Rr (T.setTop g) := by
  obtain ⟨cq, kq, q34a, q34b, q34c⟩ := isOf hZ eT E
  obtain ⟨v, vm₁, ⟨T', L', c', n'⟩, -, X', ⟨L, hQ, q1, q2, q3⟩, st⟩ := X.virtualBack hx (y := y) (z := z) hown (mvT hZ w1) (mvT hZ w2) hnf (mvT hZ w3) (mvT hZ w4) hy (backOf (W := W) hC hZ w6 w5 hf hl) q34a q34c hg hsize (Steps.refl _) hlen hstack hW hd (fun _ _ => ⟨has, eT, hc, hs⟩)
  dsimp only [Pt.U, Pt.locs, Pt.cells, Pt.slots] at X' q1 q2 q3 st hQ
  subst q1 q2 q3
  exact Gl.st (fun _ kk => st.trans kk) (k v T' L X' hQ)
theorem gCallU (X : Stand p l e R s m args below meth c T locs cells slots) (hx : p.tables.exec = Jvm.exec) (hZ : Z.Warmed39 s.vm) {own C owner : String} {index : Nat} {y z : MethodName} {bytes : ByteArray} {maxL : Nat} {ret : Option FieldType} (hown : s.vm.findClass own = some m.cls)
    (w1 : (Cond.methodLink own index y).before a0 Z = true) (w0 : (Cond.sameMethod y.cls owner y.name y.desc).before a0 Z = true) (w2 : (Cond.declares ⟨owner, y.name, y.desc⟩).before a0 Z = true) (w3 : (Cond.selects C y z).before a0 Z = true) (w4 : (Cond.instanceMethod z).before a0 Z = true) (w5 : (Cond.initialized z.cls).before a0 Z = true) (w6 : (Cond.code z bytes maxL ret).before a0 Z = true) (hy : owner ≠ "java/lang/invoke/MethodHandle" ∧ owner ≠ "java/lang/invoke/VarHandle")
    {rm : Room} {as' : Array Value} {QQ : Option Value → Heap → List Loc → Prop} (hC : Con [] l Z z bytes maxL ret rm as' h QQ) (eT : T.heap = h) {a : Addr} (E : Exa Z h a C) (hf : rm.frames + 1 ≤ R.frames) {W : Nat} (hl : W + (maxL + 11) + rm.locals ≤ R.locals) (hc : cells + rm.cells ≤ R.cells) (hs : slots + rm.slots ≤ R.slots)
    {g : JFrame} (hg : g.method = m) (hsize : g.locals.size = c.maxLocals) {argsL rest : List Value} (hlen : ∀ sig, parseMethodDescriptor y.desc = some sig → argsL.length = sig.parameters.length) (hstack : g.stack = argsL.reverse ++ .ref a :: rest) (has : (.ref a :: argsL).toArray = as') (hW : 2 * g.monitorRoom + (rest.map fun v => v.category).sum ≤ W) (hd : decode c.code g.pc = .ok (.invokevirtual index, 3))
    {Rr : State → Outcome → Prop} (k : ∀ (v : Option Value) (T' : State) (L : List Loc), Stand p l e R s m args below meth c T' (locs ++ L) (cells + rm.cells) (slots + rm.slots) → QQ v T'.heap L → Gl p e below Rr (T'.setTop { g with pc := g.pc + 3, stack := v.toList ++ rest })) : Gl p e below Rr (T.setTop g) := by
  obtain ⟨cq, kq, q34a, q34b, q34c⟩ := isOf hZ eT E
  obtain ⟨v, vm₁, ⟨T', L', c', n'⟩, -, X', ⟨L, hQ, q1, q2, q3⟩, st⟩ := X.virtualBackUp hx (x := y) (y := z) hown (mvT hZ w1) (mvT hZ w0) (mvT hZ w2) hy (mvT hZ w3) (mvT hZ w4) (backOf (W := W) hC hZ w6 w5 hf hl) q34a q34c hg hsize (Steps.refl _) hlen hstack hW hd (fun _ _ => ⟨has, eT, hc, hs⟩)
  dsimp only [Pt.U, Pt.locs, Pt.cells, Pt.slots] at X' q1 q2 q3 st hQ
  subst q1 q2 q3
  exact Gl.st (fun _ kk => st.trans kk) (k v T' L X' hQ)
/-- C is no K: the chain of superclasses doesn't meet it; K by her word 'instantiable' -/
theorem own_NS_root {O K : String} {n : Nat} (w : (Cond.noSuperclass O).before a0 Z = true) (wk : (Cond.instantiable K n).before a0 Z = true) (hn : O ≠ K) : NS Z O K := by
  obtain ⟨c, k, h1, h2, h3, -, -⟩ := Cond.noSuperclass_spec w
  obtain ⟨t, kt, g1, -⟩ := Cond.instantiable_spec wk
  have ne := ids_ne h1 g1 hn
  refine ⟨c, t, h1, g1, fun fuel => ?_⟩
  cases fuel with
  | zero => rfl
  | succ f => simp [Vm.isSubclassAux, ne, h2, h3]
theorem own_NS_no {C S K : String} {n : Nat} (w : (Cond.superclass C S).before a0 Z = true) (wk : (Cond.instantiable K n).before a0 Z = true) (N : NS Z C K) (hn : C ≠ K) : ∃ c t, Z.vm.findClass C = some c ∧ Z.vm.findClass K = some t ∧ Z.vm.assignable c t = false := by
  obtain ⟨c, t, h0, g0, n3⟩ := N
  obtain ⟨pp, k, kp, h1, h2, h3, h4, h5, -, h7⟩ := Cond.superclass_spec h0 w
  obtain ⟨t', kt, g1, g2, g3, g4, -⟩ := Cond.instantiable_spec wk
  cases g0.symm.trans g1
  have gi : kt.isInterface = false := by
    rcases Bool.or_eq_false_iff.mp g4 with ⟨q, -⟩
    exact q
  have ne := ids_ne h0 g0 hn
  refine ⟨c, t, h0, g0, ?_⟩
  show Z.vm.assignableAux (255 + 1) c t = false
  simp [Vm.assignableAux, ne, h2, g2, h5, g3, gi, Vm.isSubclass, n3]
theorem own_gcls (X : Stand p l e R s m args below meth c T locs cells slots) (hx : p.tables.exec = Jvm.exec) (hZ : Z.Warmed39 s.vm) {own C : String} {index : Nat} (hown : s.vm.findClass own = some m.cls)
    (w1 : (Cond.methodLink own index ⟨"java/lang/Object", "getClass", "()Ljava/lang/Class;"⟩).before a0 Z = true) (w2 : (Cond.declares ⟨"java/lang/Object", "getClass", "()Ljava/lang/Class;"⟩).before a0 Z = true) (w3 : (Cond.noSuperclass "java/lang/Object").before a0 Z = true) (w4 : (Cond.selects C ⟨"java/lang/Object", "getClass", "()Ljava/lang/Class;"⟩ ⟨"java/lang/Object", "getClass", "()Ljava/lang/Class;"⟩).before a0 Z = true)
    (w5 : (Cond.instanceMethod ⟨"java/lang/Object", "getClass", "()Ljava/lang/Class;"⟩).before a0 Z = true) (w6 : (Cond.native ⟨"java/lang/Object", "getClass", "()Ljava/lang/Class;"⟩).before a0 Z = true) (eT : T.heap = h) {a : Addr} (E : Exa Z h a C) {mr : Addr} {cc : ClassId} {kc : Class} (m1 : Z.vm.findClass C = some cc) (m2 : Z.vm.classes[cc]? = some kc) (m3 : kc.mirror = some mr)
    {g : JFrame} (hg : g.method = m) (hsize : g.locals.size = c.maxLocals) {rest : List Value} (hs : g.stack = .ref a :: rest) (hd : decode c.code g.pc = .ok (.invokevirtual index, 3)) (hf : 1 ≤ R.frames) {W : Nat} (hW : 2 * g.monitorRoom + (rest.map fun v => v.category).sum ≤ W) (hl : W + (nativeFrameWords "java/lang/Object" "getClass" 1 + 11) ≤ R.locals) :
    ∃ T', Stand p l e R s m args below meth c T' locs cells slots ∧ T'.heap = h ∧ ∀ target, Steps p.tables e below (T'.setTop { g with pc := g.pc + 3, stack := .ref mr :: rest }) target → Steps p.tables e below (T.setTop g) target := by
  obtain ⟨cB, kB, i1, i2, i3⟩ := isOf hZ eT E
  have i1' := i1
  rw [hZ.alike.findClass] at i1'
  cases i1'.symm.trans m1
  obtain ⟨k', q, ek⟩ := hZ.alike.2.2 _ _ m2
  obtain ⟨vm', X', st⟩ := X.getClassOf hx hown (mvT hZ w1) (mvT hZ w2) (nf_top (args := #[]) (mvT hZ w3)) (mvT hZ w4) (mvT hZ w5) (mvT hZ w6) i1 i3 q (by rw [ek]; exact m3) hg hsize hs hd hf (by omega)
  exact ⟨_, X', eT, st⟩
theorem own_len {t : Term} {cl : Cell} {ty : FieldType} {a : Addr} {n : Int32} {aa : Array Value} (ev : t.eval aa Z none [] Z = some (.ref a)) (A : Arr Z Z.heap a cl ty) (hh : (Term.length t).eval aa Z none [] Z = some (.int n)) : cl.slots.size < 2 ^ 31 ∧ cl.slots.size.toInt32 = n := by
  have q := A.fin (Vm.Alike.refl _)
  by_cases z : cl.slots.size < 2 ^ 31
  · rw [len_f ev q z] at hh
    exact ⟨z, Value.int.inj (Option.some.inj hh)⟩
  · simp [Term.eval, ev, q, z] at hh
end OwnKit
end Jvm.RoadKit

namespace Jvm.Pilot.@@N@@
open Jvm Jvm.ClassFile Sem Op Lib Jvm.Free Jvm.Stand Jvm.LawKit Jvm.RoadKit Bundle Jvm.Pilot.@@N@@.Jvm.D

theorem d2_0 : decode prog_209_method_1_code 0 = .ok (.aload_n 0, 1) := by decide +kernel
theorem d2_1 : decode prog_209_method_1_code 1 = .ok (.invokespecial 1, 3) := by decide +kernel
theorem d2_4 : decode prog_209_method_1_code 4 = .ok (.return_, 1) := by decide +kernel
set_option maxRecDepth 65536 in
set_option maxHeartbeats 40000000 in
theorem own_vini (l : Launch) (Z : State) (a0 : Array Value) (hw : ∀ d ∈ tables_1, d.before a0 Z = true) (h0 : Heap) (a : Addr) :
    Con [] l Z (⟨"com/example/ironbound_models/ironboundmodels/interpreter/Value", "<init>", "()V"⟩ : MethodName) prog_209_method_1_code 1 none ({ frames := 1, cells := 0, slots := 0, locals := 12 } : Room) #[(.ref a)] h0 (fun v h L => v = none ∧ L = [] ∧ h = h0) := by
  refine Con.of (Ls := #[.val (.ref a)]) (by first | exact plainFor_of_name (by first | (simp [plainName, overriddenIn]; done) | decide +kernel) | decide +kernel) (fun m => by first | rfl | (simp [entryFrame, mkF, argsToLocals, Value.category]; done)) ?_
  intro p e s m below meth c T0 hx hby hml hown hnm hret hlk hZ e0 X0
  refine Gl.st (U' := (T0.setTop (mkF m 1 #[.val (.ref a)] [(.ref a)]))) (fun _ zz => XS.aloadN X0.here hx rfl (hb hby d2_0) rfl rfl zz) ?_
  obtain ⟨Tt1, Xt1, et1, stt1⟩ := initO X0 hx hZ hown (hw _ (List.mem_of_getElem? (i := 11) rfl)) (hw _ (List.mem_of_getElem? (i := 12) rfl)) (hw _ (List.mem_of_getElem? (i := 13) rfl)) e0 (g := (mkF m 1 #[.val (.ref a)] [(.ref a)])) rfl (by rw [hml]; rfl) rfl (hb hby d2_1) (by decide) (W := 0) (by show 2 * 0 + _ ≤ _; exact Nat.le_of_eq rfl) (by decide)
  refine Gl.st (U' := (Tt1.setTop (mkF m 4 #[.val (.ref a)] []))) stt1 ?_
  exact Gl.retV Xt1 hx hret hlk (hb hby d2_4) ⟨rfl, rfl, et1⟩ (by decide) (by decide)
theorem d12_0 : decode jdk_18_method_1_code 0 = .ok (.aload_n 0, 1) := by decide +kernel
theorem d12_1 : decode jdk_18_method_1_code 1 = .ok (.invokespecial 1, 3) := by decide +kernel
theorem d12_4 : decode jdk_18_method_1_code 4 = .ok (.return_, 1) := by decide +kernel
set_option maxRecDepth 65536 in
set_option maxHeartbeats 40000000 in
theorem own_nini (l : Launch) (Z : State) (a0 : Array Value) (hw : ∀ d ∈ tables_1, d.before a0 Z = true) (h0 : Heap) (a : Addr) :
    Con [] l Z (⟨"java/lang/Number", "<init>", "()V"⟩ : MethodName) jdk_18_method_1_code 1 none ({ frames := 1, cells := 0, slots := 0, locals := 12 } : Room) #[(.ref a)] h0 (fun v h L => v = none ∧ L = [] ∧ h = h0) := by
  refine Con.of (Ls := #[.val (.ref a)]) (by first | exact plainFor_of_name (by first | (simp [plainName, overriddenIn]; done) | decide +kernel) | decide +kernel) (fun m => by first | rfl | (simp [entryFrame, mkF, argsToLocals, Value.category]; done)) ?_
  intro p e s m below meth c T0 hx hby hml hown hnm hret hlk hZ e0 X0
  refine Gl.st (U' := (T0.setTop (mkF m 1 #[.val (.ref a)] [(.ref a)]))) (fun _ zz => XS.aloadN X0.here hx rfl (hb hby d12_0) rfl rfl zz) ?_
  obtain ⟨Tt2, Xt2, et2, stt2⟩ := initO X0 hx hZ hown (hw _ (List.mem_of_getElem? (i := 82) rfl)) (hw _ (List.mem_of_getElem? (i := 12) rfl)) (hw _ (List.mem_of_getElem? (i := 13) rfl)) e0 (g := (mkF m 1 #[.val (.ref a)] [(.ref a)])) rfl (by rw [hml]; rfl) rfl (hb hby d12_1) (by decide) (W := 0) (by show 2 * 0 + _ ≤ _; exact Nat.le_of_eq rfl) (by decide)
  refine Gl.st (U' := (Tt2.setTop (mkF m 4 #[.val (.ref a)] []))) stt2 ?_
  exact Gl.retV Xt2 hx hret hlk (hb hby d12_4) ⟨rfl, rfl, et2⟩ (by decide) (by decide)
theorem own_pdV : parseMethodDescriptor "()V" = some ⟨[], none⟩ := by decide +kernel
def own_C (Z : State) (h : Heap) (a : Addr) (x : Int32) : Prop := Exa Z h a "com/example/ironbound_models/ironboundmodels/interpreter/CharValue" ∧ own_K h a ∧ Fld Z h a "com/example/ironbound_models/ironboundmodels/interpreter/CharValue" "codePoint" "I" (.int x)
theorem own_C_keep {Z : State} {h h' : Heap} {a : Addr} {x : Int32} {ws : List Addr} (K : Keep h h' ws) (q : a ∉ ws) (H : own_C Z h a x) : own_C Z h' a x := ⟨H.1.keep K, own_K_keep K H.2.1, H.2.2.keep K q⟩
theorem own_C_ext {Z : State} {h h' : Heap} {a : Addr} {x : Int32} (E : Ext h h') (H : own_C Z h a x) : own_C Z h' a x := ⟨H.1.ext E, own_K_ext E H.2.1, H.2.2.ext E⟩
theorem d1_0 : decode prog_145_method_1_code 0 = .ok (.aload_n 0, 1) := by decide +kernel
theorem d1_1 : decode prog_145_method_1_code 1 = .ok (.invokespecial 1, 3) := by decide +kernel
theorem d1_4 : decode prog_145_method_1_code 4 = .ok (.aload_n 0, 1) := by decide +kernel
theorem d1_5 : decode prog_145_method_1_code 5 = .ok (.iload_n 1, 1) := by decide +kernel
theorem d1_6 : decode prog_145_method_1_code 6 = .ok (.putfield 7, 3) := by decide +kernel
theorem d1_9 : decode prog_145_method_1_code 9 = .ok (.return_, 1) := by decide +kernel
set_option maxRecDepth 65536 in
set_option maxHeartbeats 40000000 in
theorem own_cini (l : Launch) (Z : State) (a0 : Array Value) (hw : ∀ d ∈ tables_1, d.before a0 Z = true) (h0 : Heap) (n0 : Nat) (a : Addr) (ga : n0 ≤ a) (x : Int32) (E0 : Exa Z h0 a "com/example/ironbound_models/ironboundmodels/interpreter/CharValue") (K0 : own_K h0 a) :
    Con [] l Z (⟨"com/example/ironbound_models/ironboundmodels/interpreter/CharValue", "<init>", "(I)V"⟩ : MethodName) prog_145_method_1_code 2 none ({ frames := 2, cells := 0, slots := 0, locals := 24 } : Room) #[(.ref a), (.int x)] h0 (fun v h L => v = none ∧ Fr n0 L ∧ Keep h0 h [a] ∧ own_C Z h a x) := by
  refine Con.of (Ls := #[.val (.ref a), .val (.int x)]) (by first | exact plainFor_of_name (by first | (simp [plainName, overriddenIn]; done) | decide +kernel) | decide +kernel) (fun m => by first | rfl | (simp [entryFrame, mkF, argsToLocals, Value.category]; done)) ?_
  intro p e s m below meth c T0 hx hby hml hown hnm hret hlk hZ e0 X0
  have P0 : Keep h0 h0 [a] := Keep.refl _ _
  have N0 := Fr.nil n0
  refine Gl.st (U' := (T0.setTop (mkF m 1 #[.val (.ref a), .val (.int x)] [(.ref a)]))) (fun _ zz => XS.aloadN X0.here hx rfl (hb hby d1_0) rfl rfl zz) ?_
  refine gCallI X0 hx hZ (y := (⟨"com/example/ironbound_models/ironboundmodels/interpreter/Value", "<init>", "()V"⟩ : MethodName)) rfl hown (hw _ (List.mem_of_getElem? (i := 6) rfl)) (hw _ (List.mem_of_getElem? (i := 7) rfl)) (hw _ (List.mem_of_getElem? (i := 9) rfl)) (hw _ (List.mem_of_getElem? (i := 10) rfl)) (by decide) (own_vini l Z a0 hw h0 a) e0 (by decide) (W := 0) (by decide) (by decide) (by decide) (g := (mkF m 1 #[.val (.ref a), .val (.int x)] [(.ref a)])) rfl (by rw [hml]; rfl) (argsL := []) (rest := []) (lenOf own_pdV rfl) rfl rfl (by show 2 * 0 + _ ≤ _; exact Nat.le_of_eq rfl) (hb hby d1_1) ?_
  rintro _ Tt3 Lt3 Xt3 ⟨rfl, rfl, et3⟩
  show Gl p e below _ (Tt3.setTop (mkF m 4 #[.val (.ref a), .val (.int x)] []))
  refine Gl.st (U' := (Tt3.setTop (mkF m 5 #[.val (.ref a), .val (.int x)] [(.ref a)]))) (fun _ zz => XS.aloadN Xt3.here hx rfl (hb hby d1_4) rfl rfl zz) ?_
  refine Gl.st (U' := (Tt3.setTop (mkF m 6 #[.val (.ref a), .val (.int x)] [(.int x), (.ref a)]))) (fun _ zz => XS.iloadN Xt3.here hx rfl (hb hby d1_5) rfl zz) ?_
  obtain ⟨ot4, Ft4⟩ := fld_laid E0 K0 (hw _ (List.mem_of_getElem? (i := 1) rfl)) (Or.inr (hw _ (List.mem_of_getElem? (i := 15) rfl)))
  obtain ⟨Tt5, ht5, Xt5, et5, Wt5, stt5⟩ := putF Xt3 hx hZ hown (host := "") (Or.inl (hw _ (List.mem_of_getElem? (i := 14) rfl))) Via.refl et3 Ft4 E0 (Or.inr ⟨(hw _ (List.mem_of_getElem? (i := 15) rfl)), rfl, hnm⟩) (hw _ (List.mem_of_getElem? (i := 1) rfl)) (ty := .int) (by decide +kernel) rfl rfl (g := (mkF m 6 #[.val (.ref a), .val (.int x)] [(.int x), (.ref a)])) rfl rfl (hb hby d1_6)
  refine Gl.st (U' := (Tt5.setTop (mkF m 9 #[.val (.ref a), .val (.int x)] []))) stt5 ?_
  have Et6 := Exa.wr Wt5 E0
  have Kt6 := own_K_wr Wt5 K0
  have Ft7 := Fld.same Wt5 Ft4
  have Pt8 := Keep.wr P0 Wt5 (Or.inl (List.mem_singleton.mpr rfl))
  have Nt9 := Fr.snoc Xt5 N0 ga
  exact Gl.retV Xt5 hx hret hlk (hb hby d1_9) (by rw [et5]; exact ⟨rfl, by simpa using Nt9, Pt8, Et6, Kt6, Ft7⟩) (by decide) (by decide)
theorem d11_0 : decode jdk_33_method_23_code 0 = .ok (.aload_n 0, 1) := by decide +kernel
theorem d11_1 : decode jdk_33_method_23_code 1 = .ok (.invokespecial 202, 3) := by decide +kernel
theorem d11_4 : decode jdk_33_method_23_code 4 = .ok (.aload_n 0, 1) := by decide +kernel
theorem d11_5 : decode jdk_33_method_23_code 5 = .ok (.iload_n 1, 1) := by decide +kernel
theorem d11_6 : decode jdk_33_method_23_code 6 = .ok (.putfield 205, 3) := by decide +kernel
theorem d11_9 : decode jdk_33_method_23_code 9 = .ok (.return_, 1) := by decide +kernel
set_option maxRecDepth 65536 in
set_option maxHeartbeats 40000000 in
theorem own_iini (l : Launch) (Z : State) (a0 : Array Value) (hw : ∀ d ∈ tables_1, d.before a0 Z = true) (h0 : Heap) (n0 : Nat) (a : Addr) (ga : n0 ≤ a) (x : Int32) (E0 : Exa Z h0 a "java/lang/Integer") (K0 : own_K h0 a) :
    Con [] l Z (⟨"java/lang/Integer", "<init>", "(I)V"⟩ : MethodName) jdk_33_method_23_code 2 none ({ frames := 2, cells := 0, slots := 0, locals := 24 } : Room) #[(.ref a), (.int x)] h0 (fun v h L => v = none ∧ Fr n0 L ∧ Keep h0 h [a] ∧ Exa Z h a "java/lang/Integer" ∧ own_K h a ∧ Fld Z h a "java/lang/Integer" "value" "I" (.int x)) := by
  refine Con.of (Ls := #[.val (.ref a), .val (.int x)]) (by first | exact plainFor_of_name (by first | (simp [plainName, overriddenIn]; done) | decide +kernel) | decide +kernel) (fun m => by first | rfl | (simp [entryFrame, mkF, argsToLocals, Value.category]; done)) ?_
  intro p e s m below meth c T0 hx hby hml hown hnm hret hlk hZ e0 X0
  have P0 : Keep h0 h0 [a] := Keep.refl _ _
  have N0 := Fr.nil n0
  refine Gl.st (U' := (T0.setTop (mkF m 1 #[.val (.ref a), .val (.int x)] [(.ref a)]))) (fun _ zz => XS.aloadN X0.here hx rfl (hb hby d11_0) rfl rfl zz) ?_
  refine gCallI X0 hx hZ (y := (⟨"java/lang/Number", "<init>", "()V"⟩ : MethodName)) rfl hown (hw _ (List.mem_of_getElem? (i := 76) rfl)) (hw _ (List.mem_of_getElem? (i := 77) rfl)) (hw _ (List.mem_of_getElem? (i := 80) rfl)) (hw _ (List.mem_of_getElem? (i := 81) rfl)) (by decide) (own_nini l Z a0 hw h0 a) e0 (by decide) (W := 0) (by decide) (by decide) (by decide) (g := (mkF m 1 #[.val (.ref a), .val (.int x)] [(.ref a)])) rfl (by rw [hml]; rfl) (argsL := []) (rest := []) (lenOf own_pdV rfl) rfl rfl (by show 2 * 0 + _ ≤ _; exact Nat.le_of_eq rfl) (hb hby d11_1) ?_
  rintro _ Tt10 Lt10 Xt10 ⟨rfl, rfl, et10⟩
  show Gl p e below _ (Tt10.setTop (mkF m 4 #[.val (.ref a), .val (.int x)] []))
  refine Gl.st (U' := (Tt10.setTop (mkF m 5 #[.val (.ref a), .val (.int x)] [(.ref a)]))) (fun _ zz => XS.aloadN Xt10.here hx rfl (hb hby d11_4) rfl rfl zz) ?_
  refine Gl.st (U' := (Tt10.setTop (mkF m 6 #[.val (.ref a), .val (.int x)] [(.int x), (.ref a)]))) (fun _ zz => XS.iloadN Xt10.here hx rfl (hb hby d11_5) rfl zz) ?_
  obtain ⟨ot11, Ft11⟩ := fld_laid E0 K0 (hw _ (List.mem_of_getElem? (i := 71) rfl)) (Or.inr (hw _ (List.mem_of_getElem? (i := 84) rfl)))
  obtain ⟨Tt12, ht12, Xt12, et12, Wt12, stt12⟩ := putF Xt10 hx hZ hown (host := "") (Or.inl (hw _ (List.mem_of_getElem? (i := 83) rfl))) Via.refl et10 Ft11 E0 (Or.inr ⟨(hw _ (List.mem_of_getElem? (i := 84) rfl)), rfl, hnm⟩) (hw _ (List.mem_of_getElem? (i := 71) rfl)) (ty := .int) (by decide +kernel) rfl rfl (g := (mkF m 6 #[.val (.ref a), .val (.int x)] [(.int x), (.ref a)])) rfl rfl (hb hby d11_6)
  refine Gl.st (U' := (Tt12.setTop (mkF m 9 #[.val (.ref a), .val (.int x)] []))) stt12 ?_
  have Et13 := Exa.wr Wt12 E0
  have Kt13 := own_K_wr Wt12 K0
  have Ft14 := Fld.same Wt12 Ft11
  have Pt15 := Keep.wr P0 Wt12 (Or.inl (List.mem_singleton.mpr rfl))
  have Nt16 := Fr.snoc Xt12 N0 ga
  exact Gl.retV Xt12 hx hret hlk (hb hby d11_9) (by rw [et12]; exact ⟨rfl, by simpa using Nt16, Pt15, Et13, Kt13, Ft14⟩) (by decide) (by decide)
theorem own_pdI : parseMethodDescriptor "(I)V" = some ⟨[.int], none⟩ := by decide +kernel
theorem own_idx (x : Int32) (q1 : ¬ x < (-128 : Int32)) (q2 : ¬ (127 : Int32) < x) : ¬ (x + (128 : Int32) < 0 ∨ (256 : Int32).toNatClampNeg ≤ (x + (128 : Int32)).toNatClampNeg) := by
  have h0 := c_iadd x 128
  have h1 := rng32 x
  have h2 := rng32 (x + 128)
  rw [Int32.lt_iff_toInt_lt] at q1 q2
  have e1 : (-128 : Int32).toInt = -128 := rfl
  have e2 : (127 : Int32).toInt = 127 := rfl
  have e3 : (128 : Int32).toInt = 128 := rfl
  have e4 : (0 : Int32).toInt = 0 := rfl
  have e5 : (256 : Int32).toInt = 256 := rfl
  simp only [Int32.lt_iff_toInt_lt, Int32.toNatClampNeg, e4, e5]
  rw [e1] at q1
  rw [e2] at q2
  rw [e3] at h0
  omega
theorem d4_0 : decode jdk_33_method_22_code 0 = .ok (.iload_n 0, 1) := by decide +kernel
theorem d4_1 : decode jdk_33_method_22_code 1 = .ok (.bipush (-128), 2) := by decide +kernel
theorem d4_3 : decode jdk_33_method_22_code 3 = .ok (.if_icmp .lt 20, 3) := by decide +kernel
theorem d4_6 : decode jdk_33_method_22_code 6 = .ok (.iload_n 0, 1) := by decide +kernel
theorem d4_7 : decode jdk_33_method_22_code 7 = .ok (.getstatic 191, 3) := by decide +kernel
theorem d4_10 : decode jdk_33_method_22_code 10 = .ok (.if_icmp .gt 13, 3) := by decide +kernel
theorem d4_13 : decode jdk_33_method_22_code 13 = .ok (.getstatic 195, 3) := by decide +kernel
theorem d4_16 : decode jdk_33_method_22_code 16 = .ok (.iload_n 0, 1) := by decide +kernel
theorem d4_17 : decode jdk_33_method_22_code 17 = .ok (.sipush 128, 3) := by decide +kernel
theorem d4_20 : decode jdk_33_method_22_code 20 = .ok (.iadd, 1) := by decide +kernel
theorem d4_21 : decode jdk_33_method_22_code 21 = .ok (.aaload, 1) := by decide +kernel
theorem d4_22 : decode jdk_33_method_22_code 22 = .ok (.areturn, 1) := by decide +kernel
theorem d4_23 : decode jdk_33_method_22_code 23 = .ok (.new 1, 3) := by decide +kernel
theorem d4_26 : decode jdk_33_method_22_code 26 = .ok (.dup, 1) := by decide +kernel
theorem d4_27 : decode jdk_33_method_22_code 27 = .ok (.iload_n 0, 1) := by decide +kernel
theorem d4_28 : decode jdk_33_method_22_code 28 = .ok (.invokespecial 199, 3) := by decide +kernel
theorem d4_31 : decode jdk_33_method_22_code 31 = .ok (.areturn, 1) := by decide +kernel
set_option maxRecDepth 65536 in
set_option maxHeartbeats 40000000 in
theorem own_vof (l : Launch) (Z : State) (a0 : Array Value) (hw : ∀ d ∈ tables_1, d.before a0 Z = true) (h0 : Heap) (n0 : Nat) (O0 : Old Z n0 h0) (ca : Addr) (cc : Cell) (vf : Int32 → Value) (S1 : Sta Z Z.heap "java/lang/Integer$IntegerCache" "high" "I" (.int 127)) (S2 : Sta Z Z.heap "java/lang/Integer$IntegerCache" "cache" "[Ljava/lang/Integer;" (.ref ca)) (BX : Bxs Z ca cc "java/lang/Integer" "I" 256 vf) (x : Int32) :
    Con [] l Z (⟨"java/lang/Integer", "valueOf", "(I)Ljava/lang/Integer;"⟩ : MethodName) jdk_33_method_22_code 1 (Option.some (Jvm.ClassFile.FieldType.object "java/lang/Integer")) ({ frames := 3, cells := 1, slots := 1, locals := 38 } : Room) #[(.int x)] h0 (fun v h L => ∃ b, v = some (.ref b) ∧ Exa Z h b "java/lang/Integer" ∧ Fr n0 L ∧ Keep h0 h []) := by
  refine Con.of (Ls := #[.val (.int x)]) (by first | exact plainFor_of_name (by first | (simp [plainName, overriddenIn]; done) | decide +kernel) | decide +kernel) (fun m => by first | rfl | (simp [entryFrame, mkF, argsToLocals, Value.category]; done)) ?_
  intro p e s m below meth c T0 hx hby hml hown hnm hret hlk hZ e0 X0
  have N0 := Fr.nil n0
  refine Gl.st (U' := (T0.setTop (mkF m 1 #[.val (.int x)] [(.int x)]))) (fun _ zz => XS.iloadN X0.here hx rfl (hb hby d4_0) rfl zz) ?_
  refine Gl.st (U' := (T0.setTop (mkF m 3 #[.val (.int x)] [(.int (-128 : Int32)), (.int x)]))) (fun _ zz => XS.bipush X0.here hx rfl (hb hby d4_1) zz) ?_
  by_cases q1 : x < (-128 : Int32)
  · refine Gl.st (U' := (T0.setTop (mkF m 23 #[.val (.int x)] []))) (fun _ zz => XS.icmpYes X0.here hx rfl (pc0 := 3) (pc' := 23) rfl (hb hby d4_3) rfl (tlt q1).1 (by decide) (by decide) zz) ?_
    obtain ⟨Tt17, ht17, Xt17, et17, Et17, At17, Dt17, Mt17, stt17⟩ := newO X0 hx hZ hown (hw _ (List.mem_of_getElem? (i := 70) rfl)) (hw _ (List.mem_of_getElem? (i := 71) rfl)) (hw _ (List.mem_of_getElem? (i := 18) rfl)) e0 (g := (mkF m 23 #[.val (.int x)] [])) rfl (hb hby d4_23) (by decide) (by decide)
    obtain ⟨at17, gt17⟩ : ∃ z, z = h0.size := ⟨_, rfl⟩
    rw [← gt17] at At17 Dt17 Mt17 stt17
    refine Gl.st (U' := (Tt17.setTop (mkF m 26 #[.val (.int x)] [(.ref at17)]))) stt17 ?_
    have ga : n0 ≤ at17 := by rw [gt17]; exact Nat.le_trans (Nat.le_of_eq O0.1.symm) O0.2.1
    refine Gl.st (U' := (Tt17.setTop (mkF m 27 #[.val (.int x)] [(.ref at17), (.ref at17)]))) (fun _ zz => XS.dup Xt17.here hx rfl (hb hby d4_26) rfl rfl zz) ?_
    refine Gl.st (U' := (Tt17.setTop (mkF m 28 #[.val (.int x)] [(.int x), (.ref at17), (.ref at17)]))) (fun _ zz => XS.iloadN Xt17.here hx rfl (hb hby d4_27) rfl zz) ?_
    refine gCallI Xt17 hx hZ (y := (⟨"java/lang/Integer", "<init>", "(I)V"⟩ : MethodName)) rfl hown (hw _ (List.mem_of_getElem? (i := 72) rfl)) (hw _ (List.mem_of_getElem? (i := 73) rfl)) (hw _ (List.mem_of_getElem? (i := 18) rfl)) (hw _ (List.mem_of_getElem? (i := 75) rfl)) (by decide) (own_iini l Z a0 hw ht17 n0 at17 ga x At17 (own_K_new Mt17)) et17 (by decide) (W := 1) (by decide) (by decide) (by decide) (g := (mkF m 28 #[.val (.int x)] [(.int x), (.ref at17), (.ref at17)])) rfl (by rw [hml]; rfl) (argsL := [(.int x)]) (rest := [(.ref at17)]) (lenOf own_pdI rfl) rfl rfl (by show 2 * 0 + _ ≤ _; exact Nat.le_of_eq rfl) (hb hby d4_28) ?_
    rintro _ Tt18 Lt18 Xt18 ⟨rfl, Nt18, Pt18, Et18, -, -⟩
    show Gl p e below _ (Tt18.setTop (mkF m 31 #[.val (.int x)] [(.ref at17)]))
    exact Gl.retA Xt18 hx hret rfl hlk rfl (hb hby d4_31) ⟨_, rfl, Et18, by simpa using Nt18, (Keep.ext (Keep.refl h0 []) Et17).trans Pt18 (fun z hz => Or.inr (by rw [List.mem_singleton.mp hz, gt17]; exact Nat.le_refl _))⟩ (by decide) (by decide)
  · refine Gl.st (U' := (T0.setTop (mkF m 6 #[.val (.int x)] []))) (fun _ zz => XS.icmpNo X0.here hx rfl (hb hby d4_3) rfl (flt q1).1 zz) ?_
    refine Gl.st (U' := (T0.setTop (mkF m 7 #[.val (.int x)] [(.int x)]))) (fun _ zz => XS.iloadN X0.here hx rfl (hb hby d4_6) rfl zz) ?_
    obtain ⟨Tt19, Xt19, et19, stt19⟩ := getS2 X0 hx hZ hown (host := "") (Or.inl (hw _ (List.mem_of_getElem? (i := 20) rfl))) Via.refl e0 (S1.ext O0.2) (g := (mkF m 7 #[.val (.int x)] [(.int x)])) rfl (hb hby d4_7)
    refine Gl.st (U' := (Tt19.setTop (mkF m 10 #[.val (.int x)] [(.int (127 : Int32)), (.int x)]))) stt19 ?_
    by_cases q2 : (127 : Int32) < x
    · refine Gl.st (U' := (Tt19.setTop (mkF m 23 #[.val (.int x)] []))) (fun _ zz => XS.icmpYes Xt19.here hx rfl (pc0 := 10) (pc' := 23) rfl (hb hby d4_10) rfl (tlt q2).2.2.1 (by decide) (by decide) zz) ?_
      obtain ⟨Tt20, ht20, Xt20, et20, Et20, At20, Dt20, Mt20, stt20⟩ := newO Xt19 hx hZ hown (hw _ (List.mem_of_getElem? (i := 70) rfl)) (hw _ (List.mem_of_getElem? (i := 71) rfl)) (hw _ (List.mem_of_getElem? (i := 18) rfl)) et19 (g := (mkF m 23 #[.val (.int x)] [])) rfl (hb hby d4_23) (by decide) (by decide)
      obtain ⟨at20, gt20⟩ : ∃ z, z = h0.size := ⟨_, rfl⟩
      rw [← gt20] at At20 Dt20 Mt20 stt20
      refine Gl.st (U' := (Tt20.setTop (mkF m 26 #[.val (.int x)] [(.ref at20)]))) stt20 ?_
      have ga : n0 ≤ at20 := by rw [gt20]; exact Nat.le_trans (Nat.le_of_eq O0.1.symm) O0.2.1
      refine Gl.st (U' := (Tt20.setTop (mkF m 27 #[.val (.int x)] [(.ref at20), (.ref at20)]))) (fun _ zz => XS.dup Xt20.here hx rfl (hb hby d4_26) rfl rfl zz) ?_
      refine Gl.st (U' := (Tt20.setTop (mkF m 28 #[.val (.int x)] [(.int x), (.ref at20), (.ref at20)]))) (fun _ zz => XS.iloadN Xt20.here hx rfl (hb hby d4_27) rfl zz) ?_
      refine gCallI Xt20 hx hZ (y := (⟨"java/lang/Integer", "<init>", "(I)V"⟩ : MethodName)) rfl hown (hw _ (List.mem_of_getElem? (i := 72) rfl)) (hw _ (List.mem_of_getElem? (i := 73) rfl)) (hw _ (List.mem_of_getElem? (i := 18) rfl)) (hw _ (List.mem_of_getElem? (i := 75) rfl)) (by decide) (own_iini l Z a0 hw ht20 n0 at20 ga x At20 (own_K_new Mt20)) et20 (by decide) (W := 1) (by decide) (by decide) (by decide) (g := (mkF m 28 #[.val (.int x)] [(.int x), (.ref at20), (.ref at20)])) rfl (by rw [hml]; rfl) (argsL := [(.int x)]) (rest := [(.ref at20)]) (lenOf own_pdI rfl) rfl rfl (by show 2 * 0 + _ ≤ _; exact Nat.le_of_eq rfl) (hb hby d4_28) ?_
      rintro _ Tt21 Lt21 Xt21 ⟨rfl, Nt21, Pt21, Et21, -, -⟩
      show Gl p e below _ (Tt21.setTop (mkF m 31 #[.val (.int x)] [(.ref at20)]))
      exact Gl.retA Xt21 hx hret rfl hlk rfl (hb hby d4_31) ⟨_, rfl, Et21, by simpa using Nt21, (Keep.ext (Keep.refl h0 []) Et20).trans Pt21 (fun z hz => Or.inr (by rw [List.mem_singleton.mp hz, gt20]; exact Nat.le_refl _))⟩ (by decide) (by decide)
    · refine Gl.st (U' := (Tt19.setTop (mkF m 13 #[.val (.int x)] []))) (fun _ zz => XS.icmpNo Xt19.here hx rfl (hb hby d4_10) rfl (flt q2).2.2.1 zz) ?_
      obtain ⟨Tt22, Xt22, et22, stt22⟩ := getS2 Xt19 hx hZ hown (host := "") (Or.inl (hw _ (List.mem_of_getElem? (i := 22) rfl))) Via.refl et19 (S2.ext O0.2) (g := (mkF m 13 #[.val (.int x)] [])) rfl (hb hby d4_13)
      refine Gl.st (U' := (Tt22.setTop (mkF m 16 #[.val (.int x)] [(.ref ca)]))) stt22 ?_
      refine Gl.st (U' := (Tt22.setTop (mkF m 17 #[.val (.int x)] [(.int x), (.ref ca)]))) (fun _ zz => XS.iloadN Xt22.here hx rfl (hb hby d4_16) rfl zz) ?_
      refine Gl.st (U' := (Tt22.setTop (mkF m 20 #[.val (.int x)] [(.int (128 : Int32)), (.int x), (.ref ca)]))) (fun _ zz => XS.sipush Xt22.here hx rfl (hb hby d4_17) zz) ?_
      refine Gl.st (U' := (Tt22.setTop (mkF m 21 #[.val (.int x)] [(.int (x + (128 : Int32))), (.ref ca)]))) (fun _ zz => XS.iadd Xt22.here hx rfl (hb hby d4_20) rfl zz) ?_
      have hin : ¬ (x + (128 : Int32) < 0 ∨ cc.slots.size ≤ (x + (128 : Int32)).toNatClampNeg) := by rw [BX.2.1]; exact own_idx x q1 q2
      obtain ⟨b, hb1, hb2, -⟩ := BX.2.2.2 _ hin
      have AX := (BX.ext O0.2).1
      refine Gl.st (U' := (Tt22.setTop (mkF m 22 #[.val (.int x)] [(.ref b)]))) (Xt22.aaload hx (by rw [et22]; exact AX.1) (State.isArrayOf_alike hZ.alike AX.2.1) rfl AX.2.2 hin hb1 (g := (mkF m 21 #[.val (.int x)] [(.int (x + (128 : Int32))), (.ref ca)])) rfl rfl (hb hby d4_21)) ?_
      exact Gl.retA Xt22 hx hret rfl hlk rfl (hb hby d4_22) (by rw [et22]; exact ⟨_, rfl, hb2.ext O0.2, N0, Keep.refl _ _⟩) (by decide) (by decide)
theorem d5_0 : decode prog_145_method_5_code 0 = .ok (.aload_n 1, 1) := by decide +kernel
theorem d5_1 : decode prog_145_method_5_code 1 = .ok (.instanceof 8, 3) := by decide +kernel
theorem d5_4 : decode prog_145_method_5_code 4 = .ok (.ifCond .eq 21, 3) := by decide +kernel
theorem d5_7 : decode prog_145_method_5_code 7 = .ok (.aload_n 1, 1) := by decide +kernel
theorem d5_8 : decode prog_145_method_5_code 8 = .ok (.checkcast 8, 3) := by decide +kernel
theorem d5_11 : decode prog_145_method_5_code 11 = .ok (.getfield 7, 3) := by decide +kernel
theorem d5_14 : decode prog_145_method_5_code 14 = .ok (.aload_n 0, 1) := by decide +kernel
theorem d5_15 : decode prog_145_method_5_code 15 = .ok (.getfield 7, 3) := by decide +kernel
theorem d5_18 : decode prog_145_method_5_code 18 = .ok (.if_icmp .ne 7, 3) := by decide +kernel
theorem d5_21 : decode prog_145_method_5_code 21 = .ok (.iconst 1, 1) := by decide +kernel
theorem d5_22 : decode prog_145_method_5_code 22 = .ok (.goto 4, 3) := by decide +kernel
theorem d5_25 : decode prog_145_method_5_code 25 = .ok (.iconst 0, 1) := by decide +kernel
theorem d5_26 : decode prog_145_method_5_code 26 = .ok (.ireturn, 1) := by decide +kernel
set_option maxRecDepth 65536 in
set_option maxHeartbeats 40000000 in
theorem own_eq (l : Launch) (Z : State) (a0 : Array Value) (hw : ∀ d ∈ tables_1, d.before a0 Z = true) (h0 : Heap) (a b : Addr) (x y : Int32) (HA : own_C Z h0 a x) (HB : own_C Z h0 b y) :
    Con [] l Z (⟨"com/example/ironbound_models/ironboundmodels/interpreter/CharValue", "equals", "(Ljava/lang/Object;)Z"⟩ : MethodName) prog_145_method_5_code 2 (Option.some Jvm.ClassFile.FieldType.boolean) ({ frames := 0, cells := 0, slots := 0, locals := 0 } : Room) #[(.ref a), (.ref b)] h0 (fun v h L => v = some (.int (own_bi (y = x))) ∧ L = [] ∧ h = h0) := by
  refine Con.of (Ls := #[.val (.ref a), .val (.ref b)]) (by first | exact plainFor_of_name (by first | (simp [plainName, overriddenIn]; done) | decide +kernel) | decide +kernel) (fun m => by first | rfl | (simp [entryFrame, mkF, argsToLocals, Value.category]; done)) ?_
  intro p e s m below meth c T0 hx hby hml hown hnm hret hlk hZ e0 X0
  obtain ⟨EA, -, FA⟩ := HA
  obtain ⟨EB, -, FB⟩ := HB
  refine Gl.st (U' := (T0.setTop (mkF m 1 #[.val (.ref a), .val (.ref b)] [(.ref b)]))) (fun _ zz => XS.aloadN X0.here hx rfl (hb hby d5_0) rfl rfl zz) ?_
  obtain ⟨Tt23, Xt23, et23, stt23⟩ := instY X0 hx hZ hown (hw _ (List.mem_of_getElem? (i := 28) rfl)) e0 (Ins.self EB) (g := (mkF m 1 #[.val (.ref a), .val (.ref b)] [(.ref b)])) rfl rfl (hb hby d5_1)
  refine Gl.st (U' := (Tt23.setTop (mkF m 4 #[.val (.ref a), .val (.ref b)] [(.int (1 : Int32))]))) stt23 ?_
  refine Gl.st (U' := (Tt23.setTop (mkF m 7 #[.val (.ref a), .val (.ref b)] []))) (fun _ zz => XS.ifNo Xt23.here hx rfl (hb hby d5_4) rfl ((if0 _ _).trans (feq (by decide)).1) zz) ?_
  refine Gl.st (U' := (Tt23.setTop (mkF m 8 #[.val (.ref a), .val (.ref b)] [(.ref b)]))) (fun _ zz => XS.aloadN Xt23.here hx rfl (hb hby d5_7) rfl rfl zz) ?_
  obtain ⟨Tt24, Xt24, et24, stt24⟩ := castY Xt23 hx hZ hown (hw _ (List.mem_of_getElem? (i := 28) rfl)) et23 (Ins.self EB) (g := (mkF m 8 #[.val (.ref a), .val (.ref b)] [(.ref b)])) rfl rfl (hb hby d5_8)
  refine Gl.st (U' := (Tt24.setTop (mkF m 11 #[.val (.ref a), .val (.ref b)] [(.ref b)]))) stt24 ?_
  obtain ⟨Tt25, Xt25, et25, stt25⟩ := getF Xt24 hx hZ hown (host := "") (Or.inl (hw _ (List.mem_of_getElem? (i := 14) rfl))) Via.refl et24 FB (g := (mkF m 11 #[.val (.ref a), .val (.ref b)] [(.ref b)])) rfl rfl (hb hby d5_11)
  refine Gl.st (U' := (Tt25.setTop (mkF m 14 #[.val (.ref a), .val (.ref b)] [(.int y)]))) stt25 ?_
  refine Gl.st (U' := (Tt25.setTop (mkF m 15 #[.val (.ref a), .val (.ref b)] [(.ref a), (.int y)]))) (fun _ zz => XS.aloadN Xt25.here hx rfl (hb hby d5_14) rfl rfl zz) ?_
  obtain ⟨Tt26, Xt26, et26, stt26⟩ := getF Xt25 hx hZ hown (host := "") (Or.inl (hw _ (List.mem_of_getElem? (i := 14) rfl))) Via.refl et25 FA (g := (mkF m 15 #[.val (.ref a), .val (.ref b)] [(.ref a), (.int y)])) rfl rfl (hb hby d5_15)
  refine Gl.st (U' := (Tt26.setTop (mkF m 18 #[.val (.ref a), .val (.ref b)] [(.int x), (.int y)]))) stt26 ?_
  by_cases q : y = x
  · refine Gl.st (U' := (Tt26.setTop (mkF m 21 #[.val (.ref a), .val (.ref b)] []))) (fun _ zz => XS.icmpNo Xt26.here hx rfl (hb hby d5_18) rfl (teq q).2 zz) ?_
    refine Gl.st (U' := (Tt26.setTop (mkF m 22 #[.val (.ref a), .val (.ref b)] [(.int (1 : Int32))]))) (fun _ zz => XS.iconst Xt26.here hx rfl (hb hby d5_21) zz) ?_
    refine Gl.st (U' := (Tt26.setTop (mkF m 26 #[.val (.ref a), .val (.ref b)] [(.int (1 : Int32))]))) (fun _ zz => XS.goto Xt26.here hx rfl (pc0 := 22) (pc' := 26) rfl (hb hby d5_22) (by decide) (by decide) zz) ?_
    exact Gl.retZ Xt26 hx hret hlk (hb hby d5_26) (Or.inr rfl) ⟨by rw [own_bi_t (q)], rfl, et26⟩ (by decide) (by decide)
  · refine Gl.st (U' := (Tt26.setTop (mkF m 25 #[.val (.ref a), .val (.ref b)] []))) (fun _ zz => XS.icmpYes Xt26.here hx rfl (pc0 := 18) (pc' := 25) rfl (hb hby d5_18) rfl (feq q).2 (by decide) (by decide) zz) ?_
    refine Gl.st (U' := (Tt26.setTop (mkF m 26 #[.val (.ref a), .val (.ref b)] [(.int (0 : Int32))]))) (fun _ zz => XS.iconst Xt26.here hx rfl (hb hby d5_25) zz) ?_
    exact Gl.retZ Xt26 hx hret hlk (hb hby d5_26) (Or.inl rfl) ⟨by rw [own_bi_f (q)], rfl, et26⟩ (by decide) (by decide)
set_option maxRecDepth 65536 in
set_option maxHeartbeats 40000000 in
theorem own_eqn (l : Launch) (Z : State) (a0 : Array Value) (hw : ∀ d ∈ tables_1, d.before a0 Z = true) (h0 : Heap) (a : Addr) :
    Con [] l Z (⟨"com/example/ironbound_models/ironboundmodels/interpreter/CharValue", "equals", "(Ljava/lang/Object;)Z"⟩ : MethodName) prog_145_method_5_code 2 (Option.some Jvm.ClassFile.FieldType.boolean) ({ frames := 0, cells := 0, slots := 0, locals := 0 } : Room) #[(.ref a), .null] h0 (fun v h L => v = some (.int 0) ∧ L = [] ∧ h = h0) := by
  refine Con.of (Ls := #[.val (.ref a), .val .null]) (by first | exact plainFor_of_name (by first | (simp [plainName, overriddenIn]; done) | decide +kernel) | decide +kernel) (fun m => by first | rfl | (simp [entryFrame, mkF, argsToLocals, Value.category]; done)) ?_
  intro p e s m below meth c T0 hx hby hml hown hnm hret hlk hZ e0 X0
  refine Gl.st (U' := (T0.setTop (mkF m 1 #[.val (.ref a), .val .null] [.null]))) (fun _ zz => XS.aloadN X0.here hx rfl (hb hby d5_0) rfl rfl zz) ?_
  refine Gl.st (U' := (T0.setTop (mkF m 4 #[.val (.ref a), .val .null] [(.int (0 : Int32))]))) (Jvm.Stand.instanceofNull X0 hx (g := (mkF m 1 #[.val (.ref a), .val .null] [.null])) rfl rfl (hb hby d5_1)) ?_
  refine Gl.st (U' := (T0.setTop (mkF m 25 #[.val (.ref a), .val .null] []))) (fun _ zz => XS.ifYes X0.here hx rfl (pc0 := 4) (pc' := 25) rfl (hb hby d5_4) rfl ((if0 _ _).trans (teq rfl).1) (by decide) (by decide) zz) ?_
  refine Gl.st (U' := (T0.setTop (mkF m 26 #[.val (.ref a), .val .null] [(.int (0 : Int32))]))) (fun _ zz => XS.iconst X0.here hx rfl (hb hby d5_25) zz) ?_
  exact Gl.retZ X0 hx hret hlk (hb hby d5_26) (Or.inl rfl) ⟨rfl, rfl, e0⟩ (by decide) (by decide)
set_option maxRecDepth 65536 in
set_option maxHeartbeats 40000000 in
theorem own_eqi (l : Launch) (Z : State) (a0 : Array Value) (hw : ∀ d ∈ tables_1, d.before a0 Z = true) (h0 : Heap) (a b : Addr) (EB : Exa Z h0 b "java/lang/Integer") :
    Con [] l Z (⟨"com/example/ironbound_models/ironboundmodels/interpreter/CharValue", "equals", "(Ljava/lang/Object;)Z"⟩ : MethodName) prog_145_method_5_code 2 (Option.some Jvm.ClassFile.FieldType.boolean) ({ frames := 0, cells := 0, slots := 0, locals := 0 } : Room) #[(.ref a), (.ref b)] h0 (fun v h L => v = some (.int 0) ∧ L = [] ∧ h = h0) := by
  refine Con.of (Ls := #[.val (.ref a), .val (.ref b)]) (by first | exact plainFor_of_name (by first | (simp [plainName, overriddenIn]; done) | decide +kernel) | decide +kernel) (fun m => by first | rfl | (simp [entryFrame, mkF, argsToLocals, Value.category]; done)) ?_
  intro p e s m below meth c T0 hx hby hml hown hnm hret hlk hZ e0 X0
  have NS0 : NS Z "java/lang/Object" "com/example/ironbound_models/ironboundmodels/interpreter/CharValue" := own_NS_root (hw _ (List.mem_of_getElem? (i := 32) rfl)) (hw _ (List.mem_of_getElem? (i := 1) rfl)) (by decide)
  have NS1 := NS.step (hw _ (List.mem_of_getElem? (i := 31) rfl)) NS0 (by decide)
  have NS2 := NS.step (hw _ (List.mem_of_getElem? (i := 30) rfl)) NS1 (by decide)
  refine Gl.st (U' := (T0.setTop (mkF m 1 #[.val (.ref a), .val (.ref b)] [(.ref b)]))) (fun _ zz => XS.aloadN X0.here hx rfl (hb hby d5_0) rfl rfl zz) ?_
  obtain ⟨Tt27, Xt27, et27, stt27⟩ := instNo X0 hx hZ hown (hw _ (List.mem_of_getElem? (i := 28) rfl)) e0 EB (own_NS_no (hw _ (List.mem_of_getElem? (i := 30) rfl)) (hw _ (List.mem_of_getElem? (i := 1) rfl)) NS2 (by decide)) (g := (mkF m 1 #[.val (.ref a), .val (.ref b)] [(.ref b)])) rfl rfl (hb hby d5_1)
  refine Gl.st (U' := (Tt27.setTop (mkF m 4 #[.val (.ref a), .val (.ref b)] [(.int (0 : Int32))]))) stt27 ?_
  refine Gl.st (U' := (Tt27.setTop (mkF m 25 #[.val (.ref a), .val (.ref b)] []))) (fun _ zz => XS.ifYes Xt27.here hx rfl (pc0 := 4) (pc' := 25) rfl (hb hby d5_4) rfl ((if0 _ _).trans (teq rfl).1) (by decide) (by decide) zz) ?_
  refine Gl.st (U' := (Tt27.setTop (mkF m 26 #[.val (.ref a), .val (.ref b)] [(.int (0 : Int32))]))) (fun _ zz => XS.iconst Xt27.here hx rfl (hb hby d5_25) zz) ?_
  exact Gl.retZ Xt27 hx hret hlk (hb hby d5_26) (Or.inl rfl) ⟨rfl, rfl, et27⟩ (by decide) (by decide)
theorem d10_0 : decode jdk_33_method_40_code 0 = .ok (.iload_n 0, 1) := by decide +kernel
theorem d10_1 : decode jdk_33_method_40_code 1 = .ok (.iload_n 1, 1) := by decide +kernel
theorem d10_2 : decode jdk_33_method_40_code 2 = .ok (.if_icmp .ge 7, 3) := by decide +kernel
theorem d10_5 : decode jdk_33_method_40_code 5 = .ok (.iconst (-1), 1) := by decide +kernel
theorem d10_6 : decode jdk_33_method_40_code 6 = .ok (.goto 13, 3) := by decide +kernel
theorem d10_9 : decode jdk_33_method_40_code 9 = .ok (.iload_n 0, 1) := by decide +kernel
theorem d10_10 : decode jdk_33_method_40_code 10 = .ok (.iload_n 1, 1) := by decide +kernel
theorem d10_11 : decode jdk_33_method_40_code 11 = .ok (.if_icmp .ne 7, 3) := by decide +kernel
theorem d10_14 : decode jdk_33_method_40_code 14 = .ok (.iconst 0, 1) := by decide +kernel
theorem d10_15 : decode jdk_33_method_40_code 15 = .ok (.goto 4, 3) := by decide +kernel
theorem d10_18 : decode jdk_33_method_40_code 18 = .ok (.iconst 1, 1) := by decide +kernel
theorem d10_19 : decode jdk_33_method_40_code 19 = .ok (.ireturn, 1) := by decide +kernel
set_option maxRecDepth 65536 in
set_option maxHeartbeats 40000000 in
theorem own_cmp (l : Launch) (Z : State) (a0 : Array Value) (hw : ∀ d ∈ tables_1, d.before a0 Z = true) (h0 : Heap) (x y : Int32) :
    Con [] l Z (⟨"java/lang/Integer", "compare", "(II)I"⟩ : MethodName) jdk_33_method_40_code 2 (Option.some Jvm.ClassFile.FieldType.int) ({ frames := 0, cells := 0, slots := 0, locals := 0 } : Room) #[(.int x), (.int y)] h0 (fun v h L => ∃ z, v = some (.int z) ∧ (z = 0 ↔ x = y) ∧ L = [] ∧ h = h0) := by
  refine Con.of (Ls := #[.val (.int x), .val (.int y)]) (by first | exact plainFor_of_name (by first | (simp [plainName, overriddenIn]; done) | decide +kernel) | decide +kernel) (fun m => by first | rfl | (simp [entryFrame, mkF, argsToLocals, Value.category]; done)) ?_
  intro p e s m below meth c T0 hx hby hml hown hnm hret hlk hZ e0 X0
  refine Gl.st (U' := (T0.setTop (mkF m 1 #[.val (.int x), .val (.int y)] [(.int x)]))) (fun _ zz => XS.iloadN X0.here hx rfl (hb hby d10_0) rfl zz) ?_
  refine Gl.st (U' := (T0.setTop (mkF m 2 #[.val (.int x), .val (.int y)] [(.int y), (.int x)]))) (fun _ zz => XS.iloadN X0.here hx rfl (hb hby d10_1) rfl zz) ?_
  by_cases q1 : x < y
  · refine Gl.st (U' := (T0.setTop (mkF m 5 #[.val (.int x), .val (.int y)] []))) (fun _ zz => XS.icmpNo X0.here hx rfl (hb hby d10_2) rfl (tlt q1).2.1 zz) ?_
    refine Gl.st (U' := (T0.setTop (mkF m 6 #[.val (.int x), .val (.int y)] [(.int (-1 : Int32))]))) (fun _ zz => XS.iconst X0.here hx rfl (hb hby d10_5) zz) ?_
    refine Gl.st (U' := (T0.setTop (mkF m 19 #[.val (.int x), .val (.int y)] [(.int (-1 : Int32))]))) (fun _ zz => XS.goto X0.here hx rfl (pc0 := 6) (pc' := 19) rfl (hb hby d10_6) (by decide) (by decide) zz) ?_
    exact Gl.retI X0 hx hret hlk (hb hby d10_19) ⟨_, rfl, ⟨fun z => absurd z (by decide), fun z => absurd q1 (by rw [z]; exact fun h => Int32.lt_irrefl h)⟩, rfl, e0⟩ (by decide) (by decide)
  · refine Gl.st (U' := (T0.setTop (mkF m 9 #[.val (.int x), .val (.int y)] []))) (fun _ zz => XS.icmpYes X0.here hx rfl (pc0 := 2) (pc' := 9) rfl (hb hby d10_2) rfl (flt q1).2.1 (by decide) (by decide) zz) ?_
    refine Gl.st (U' := (T0.setTop (mkF m 10 #[.val (.int x), .val (.int y)] [(.int x)]))) (fun _ zz => XS.iloadN X0.here hx rfl (hb hby d10_9) rfl zz) ?_
    refine Gl.st (U' := (T0.setTop (mkF m 11 #[.val (.int x), .val (.int y)] [(.int y), (.int x)]))) (fun _ zz => XS.iloadN X0.here hx rfl (hb hby d10_10) rfl zz) ?_
    by_cases q2 : x = y
    · refine Gl.st (U' := (T0.setTop (mkF m 14 #[.val (.int x), .val (.int y)] []))) (fun _ zz => XS.icmpNo X0.here hx rfl (hb hby d10_11) rfl (teq q2).2 zz) ?_
      refine Gl.st (U' := (T0.setTop (mkF m 15 #[.val (.int x), .val (.int y)] [(.int (0 : Int32))]))) (fun _ zz => XS.iconst X0.here hx rfl (hb hby d10_14) zz) ?_
      refine Gl.st (U' := (T0.setTop (mkF m 19 #[.val (.int x), .val (.int y)] [(.int (0 : Int32))]))) (fun _ zz => XS.goto X0.here hx rfl (pc0 := 15) (pc' := 19) rfl (hb hby d10_15) (by decide) (by decide) zz) ?_
      exact Gl.retI X0 hx hret hlk (hb hby d10_19) ⟨_, rfl, ⟨fun _ => q2, fun _ => rfl⟩, rfl, e0⟩ (by decide) (by decide)
    · refine Gl.st (U' := (T0.setTop (mkF m 18 #[.val (.int x), .val (.int y)] []))) (fun _ zz => XS.icmpYes X0.here hx rfl (pc0 := 11) (pc' := 18) rfl (hb hby d10_11) rfl (feq q2).2 (by decide) (by decide) zz) ?_
      refine Gl.st (U' := (T0.setTop (mkF m 19 #[.val (.int x), .val (.int y)] [(.int (1 : Int32))]))) (fun _ zz => XS.iconst X0.here hx rfl (hb hby d10_18) zz) ?_
      exact Gl.retI X0 hx hret hlk (hb hby d10_19) ⟨_, rfl, ⟨fun z => absurd z (by decide), fun z => absurd z q2⟩, rfl, e0⟩ (by decide) (by decide)
theorem own_pdC : parseMethodDescriptor "(II)I" = some ⟨[.int, .int], some .int⟩ := by decide +kernel
theorem d9_0 : decode prog_145_method_4_code 0 = .ok (.aload_n 0, 1) := by decide +kernel
theorem d9_1 : decode prog_145_method_4_code 1 = .ok (.getfield 7, 3) := by decide +kernel
theorem d9_4 : decode prog_145_method_4_code 4 = .ok (.aload_n 1, 1) := by decide +kernel
theorem d9_5 : decode prog_145_method_4_code 5 = .ok (.checkcast 8, 3) := by decide +kernel
theorem d9_8 : decode prog_145_method_4_code 8 = .ok (.getfield 7, 3) := by decide +kernel
theorem d9_11 : decode prog_145_method_4_code 11 = .ok (.invokestatic 19, 3) := by decide +kernel
theorem d9_14 : decode prog_145_method_4_code 14 = .ok (.ireturn, 1) := by decide +kernel
set_option maxRecDepth 65536 in
set_option maxHeartbeats 40000000 in
theorem own_cw (l : Launch) (Z : State) (a0 : Array Value) (hw : ∀ d ∈ tables_1, d.before a0 Z = true) (h0 : Heap) (a b : Addr) (x y : Int32) (HA : own_C Z h0 a x) (HB : own_C Z h0 b y) :
    Con [] l Z (⟨"com/example/ironbound_models/ironboundmodels/interpreter/CharValue", "compareWithin", "(Lcom/example/ironbound_models/ironboundmodels/interpreter/Value;)I"⟩ : MethodName) prog_145_method_4_code 2 (Option.some Jvm.ClassFile.FieldType.int) ({ frames := 1, cells := 0, slots := 0, locals := 13 } : Room) #[(.ref a), (.ref b)] h0 (fun v h L => ∃ z, v = some (.int z) ∧ (z = 0 ↔ x = y) ∧ L = [] ∧ h = h0) := by
  refine Con.of (Ls := #[.val (.ref a), .val (.ref b)]) (by first | exact plainFor_of_name (by first | (simp [plainName, overriddenIn]; done) | decide +kernel) | decide +kernel) (fun m => by first | rfl | (simp [entryFrame, mkF, argsToLocals, Value.category]; done)) ?_
  intro p e s m below meth c T0 hx hby hml hown hnm hret hlk hZ e0 X0
  obtain ⟨EA, -, FA⟩ := HA
  obtain ⟨EB, -, FB⟩ := HB
  refine Gl.st (U' := (T0.setTop (mkF m 1 #[.val (.ref a), .val (.ref b)] [(.ref a)]))) (fun _ zz => XS.aloadN X0.here hx rfl (hb hby d9_0) rfl rfl zz) ?_
  obtain ⟨Tt28, Xt28, et28, stt28⟩ := getF X0 hx hZ hown (host := "") (Or.inl (hw _ (List.mem_of_getElem? (i := 14) rfl))) Via.refl e0 FA (g := (mkF m 1 #[.val (.ref a), .val (.ref b)] [(.ref a)])) rfl rfl (hb hby d9_1)
  refine Gl.st (U' := (Tt28.setTop (mkF m 4 #[.val (.ref a), .val (.ref b)] [(.int x)]))) stt28 ?_
  refine Gl.st (U' := (Tt28.setTop (mkF m 5 #[.val (.ref a), .val (.ref b)] [(.ref b), (.int x)]))) (fun _ zz => XS.aloadN Xt28.here hx rfl (hb hby d9_4) rfl rfl zz) ?_
  obtain ⟨Tt29, Xt29, et29, stt29⟩ := castY Xt28 hx hZ hown (hw _ (List.mem_of_getElem? (i := 28) rfl)) et28 (Ins.self EB) (g := (mkF m 5 #[.val (.ref a), .val (.ref b)] [(.ref b), (.int x)])) rfl rfl (hb hby d9_5)
  refine Gl.st (U' := (Tt29.setTop (mkF m 8 #[.val (.ref a), .val (.ref b)] [(.ref b), (.int x)]))) stt29 ?_
  obtain ⟨Tt30, Xt30, et30, stt30⟩ := getF Xt29 hx hZ hown (host := "") (Or.inl (hw _ (List.mem_of_getElem? (i := 14) rfl))) Via.refl et29 FB (g := (mkF m 8 #[.val (.ref a), .val (.ref b)] [(.ref b), (.int x)])) rfl rfl (hb hby d9_8)
  refine Gl.st (U' := (Tt30.setTop (mkF m 11 #[.val (.ref a), .val (.ref b)] [(.int y), (.int x)]))) stt30 ?_
  refine gCallS Xt30 hx hZ (y := (⟨"java/lang/Integer", "compare", "(II)I"⟩ : MethodName)) hown (hw _ (List.mem_of_getElem? (i := 67) rfl)) (hw _ (List.mem_of_getElem? (i := 68) rfl)) (hw _ (List.mem_of_getElem? (i := 18) rfl)) (hw _ (List.mem_of_getElem? (i := 69) rfl)) (by decide) (own_cmp l Z a0 hw h0 x y) et30 (by decide) (W := 0) (by decide) (by decide) (by decide) (g := (mkF m 11 #[.val (.ref a), .val (.ref b)] [(.int y), (.int x)])) rfl (by rw [hml]; rfl) (argsL := [(.int x), (.int y)]) (rest := []) (lenOf own_pdC rfl) rfl rfl (by show 2 * 0 + _ ≤ _; exact Nat.le_of_eq rfl) (hb hby d9_11) ?_
  rintro _ Tt31 Lt31 Xt31 ⟨z, rfl, hz, rfl, et31⟩
  show Gl p e below _ (Tt31.setTop (mkF m 14 #[.val (.ref a), .val (.ref b)] [(.int z)]))
  exact Gl.retI Xt31 hx hret hlk (hb hby d9_14) ⟨_, rfl, hz, rfl, et31⟩ (by decide) (by decide)
theorem d7_0 : decode prog_145_method_3_code 0 = .ok (.getstatic 13, 3) := by decide +kernel
theorem d7_3 : decode prog_145_method_3_code 3 = .ok (.areturn, 1) := by decide +kernel
set_option maxRecDepth 65536 in
set_option maxHeartbeats 40000000 in
theorem own_kind (l : Launch) (Z : State) (a0 : Array Value) (hw : ∀ d ∈ tables_1, d.before a0 Z = true) (h0 : Heap) (a kk : Addr) (SK : Sta Z h0 "com/example/ironbound_models/ironboundmodels/interpreter/Value$Kind" "CHAR" "Lcom/example/ironbound_models/ironboundmodels/interpreter/Value$Kind;" (.ref kk)) :
    Con [] l Z (⟨"com/example/ironbound_models/ironboundmodels/interpreter/CharValue", "kind", "()Lcom/example/ironbound_models/ironboundmodels/interpreter/Value$Kind;"⟩ : MethodName) prog_145_method_3_code 1 (Option.some (Jvm.ClassFile.FieldType.object "com/example/ironbound_models/ironboundmodels/interpreter/Value$Kind")) ({ frames := 0, cells := 0, slots := 0, locals := 0 } : Room) #[(.ref a)] h0 (fun v h L => v = some (.ref kk) ∧ L = [] ∧ h = h0) := by
  refine Con.of (Ls := #[.val (.ref a)]) (by first | exact plainFor_of_name (by first | (simp [plainName, overriddenIn]; done) | decide +kernel) | decide +kernel) (fun m => by first | rfl | (simp [entryFrame, mkF, argsToLocals, Value.category]; done)) ?_
  intro p e s m below meth c T0 hx hby hml hown hnm hret hlk hZ e0 X0
  obtain ⟨Tt32, Xt32, et32, stt32⟩ := getS2 X0 hx hZ hown (host := "") (Or.inl (hw _ (List.mem_of_getElem? (i := 44) rfl))) Via.refl e0 SK (g := (mkF m 0 #[.val (.ref a)] [])) rfl (hb hby d7_0)
  refine Gl.st (U' := (Tt32.setTop (mkF m 3 #[.val (.ref a)] [(.ref kk)]))) stt32 ?_
  exact Gl.retA Xt32 hx hret rfl hlk rfl (hb hby d7_3) ⟨rfl, rfl, et32⟩ (by decide) (by decide)
theorem d8_0 : decode jdk_37_method_8_code 0 = .ok (.aload_n 1, 1) := by decide +kernel
theorem d8_1 : decode jdk_37_method_8_code 1 = .ok (.astore_n 2, 1) := by decide +kernel
theorem d8_2 : decode jdk_37_method_8_code 2 = .ok (.aload_n 0, 1) := by decide +kernel
theorem d8_3 : decode jdk_37_method_8_code 3 = .ok (.astore_n 3, 1) := by decide +kernel
theorem d8_4 : decode jdk_37_method_8_code 4 = .ok (.aload_n 3, 1) := by decide +kernel
theorem d8_5 : decode jdk_37_method_8_code 5 = .ok (.invokevirtual 29, 3) := by decide +kernel
theorem d8_8 : decode jdk_37_method_8_code 8 = .ok (.aload_n 2, 1) := by decide +kernel
theorem d8_9 : decode jdk_37_method_8_code 9 = .ok (.invokevirtual 29, 3) := by decide +kernel
theorem d8_12 : decode jdk_37_method_8_code 12 = .ok (.if_acmp .eq 22, 3) := by decide +kernel
theorem d8_15 : decode jdk_37_method_8_code 15 = .ok (.aload_n 3, 1) := by decide +kernel
theorem d8_16 : decode jdk_37_method_8_code 16 = .ok (.invokevirtual 33, 3) := by decide +kernel
theorem d8_19 : decode jdk_37_method_8_code 19 = .ok (.aload_n 2, 1) := by decide +kernel
theorem d8_20 : decode jdk_37_method_8_code 20 = .ok (.invokevirtual 33, 3) := by decide +kernel
theorem d8_23 : decode jdk_37_method_8_code 23 = .ok (.if_acmp .eq 11, 3) := by decide +kernel
theorem d8_26 : decode jdk_37_method_8_code 26 = .ok (.new 36, 3) := by decide +kernel
theorem d8_29 : decode jdk_37_method_8_code 29 = .ok (.dup, 1) := by decide +kernel
theorem d8_30 : decode jdk_37_method_8_code 30 = .ok (.invokespecial 38, 3) := by decide +kernel
theorem d8_33 : decode jdk_37_method_8_code 33 = .ok (.athrow, 1) := by decide +kernel
theorem d8_34 : decode jdk_37_method_8_code 34 = .ok (.aload_n 3, 1) := by decide +kernel
theorem d8_35 : decode jdk_37_method_8_code 35 = .ok (.getfield 7, 3) := by decide +kernel
theorem d8_38 : decode jdk_37_method_8_code 38 = .ok (.aload_n 2, 1) := by decide +kernel
theorem d8_39 : decode jdk_37_method_8_code 39 = .ok (.getfield 7, 3) := by decide +kernel
theorem d8_42 : decode jdk_37_method_8_code 42 = .ok (.isub, 1) := by decide +kernel
theorem d8_43 : decode jdk_37_method_8_code 43 = .ok (.ireturn, 1) := by decide +kernel
set_option maxRecDepth 65536 in
set_option maxHeartbeats 40000000 in
theorem own_ec (l : Launch) (Z : State) (a0 : Array Value) (hw : ∀ d ∈ tables_1, d.before a0 Z = true) (h0 : Heap) (kk mr : Addr) (cK : ClassId) (kK : Class) (m1 : Z.vm.findClass "com/example/ironbound_models/ironboundmodels/interpreter/Value$Kind" = some cK) (m2 : Z.vm.classes[cK]? = some kK) (m3 : kK.mirror = some mr) (EK : Exa Z h0 kk "com/example/ironbound_models/ironboundmodels/interpreter/Value$Kind") (FK : Fld Z h0 kk "java/lang/Enum" "ordinal" "I" (.int 4)) :
    Con [] l Z (⟨"java/lang/Enum", "compareTo", "(Ljava/lang/Enum;)I"⟩ : MethodName) jdk_37_method_8_code 4 (Option.some Jvm.ClassFile.FieldType.int) ({ frames := 1, cells := 0, slots := 0, locals := 45 } : Room) #[(.ref kk), (.ref kk)] h0 (fun v h L => v = some (.int 0) ∧ L = [] ∧ h = h0) := by
  refine Con.of (Ls := #[.val (.ref kk), .val (.ref kk), .unset, .unset]) (by first | exact plainFor_of_name (by first | (simp [plainName, overriddenIn]; done) | decide +kernel) | decide +kernel) (fun m => by first | rfl | (simp [entryFrame, mkF, argsToLocals, Value.category]; done)) ?_
  intro p e s m below meth c T0 hx hby hml hown hnm hret hlk hZ e0 X0
  refine Gl.st (U' := (T0.setTop (mkF m 1 #[.val (.ref kk), .val (.ref kk), .unset, .unset] [(.ref kk)]))) (fun _ zz => XS.aloadN X0.here hx rfl (hb hby d8_0) rfl rfl zz) ?_
  refine Gl.st (U' := (T0.setTop (mkF m 2 #[.val (.ref kk), .val (.ref kk), .val (.ref kk), .unset] []))) (fun _ zz => XS.astoreN X0.here hx rfl (hb hby d8_1) rfl rfl (l' := #[.val (.ref kk), .val (.ref kk), .val (.ref kk), .unset]) rfl zz) ?_
  refine Gl.st (U' := (T0.setTop (mkF m 3 #[.val (.ref kk), .val (.ref kk), .val (.ref kk), .unset] [(.ref kk)]))) (fun _ zz => XS.aloadN X0.here hx rfl (hb hby d8_2) rfl rfl zz) ?_
  refine Gl.st (U' := (T0.setTop (mkF m 4 #[.val (.ref kk), .val (.ref kk), .val (.ref kk), .val (.ref kk)] []))) (fun _ zz => XS.astoreN X0.here hx rfl (hb hby d8_3) rfl rfl (l' := #[.val (.ref kk), .val (.ref kk), .val (.ref kk), .val (.ref kk)]) rfl zz) ?_
  refine Gl.st (U' := (T0.setTop (mkF m 5 #[.val (.ref kk), .val (.ref kk), .val (.ref kk), .val (.ref kk)] [(.ref kk)]))) (fun _ zz => XS.aloadN X0.here hx rfl (hb hby d8_4) rfl rfl zz) ?_
  obtain ⟨Tt33, Xt33, et33, stt33⟩ := own_gcls X0 hx hZ hown (hw _ (List.mem_of_getElem? (i := 54) rfl)) (hw _ (List.mem_of_getElem? (i := 55) rfl)) (hw _ (List.mem_of_getElem? (i := 32) rfl)) (hw _ (List.mem_of_getElem? (i := 57) rfl)) (hw _ (List.mem_of_getElem? (i := 56) rfl)) (hw _ (List.mem_of_getElem? (i := 58) rfl)) e0 EK m1 m2 m3 (g := (mkF m 5 #[.val (.ref kk), .val (.ref kk), .val (.ref kk), .val (.ref kk)] [(.ref kk)])) rfl (by rw [hml]; rfl) rfl (hb hby d8_5) (by decide) (W := 0) (by show 2 * 0 + _ ≤ _; exact Nat.le_of_eq rfl) (by decide)
  refine Gl.st (U' := (Tt33.setTop (mkF m 8 #[.val (.ref kk), .val (.ref kk), .val (.ref kk), .val (.ref kk)] [(.ref mr)]))) stt33 ?_
  refine Gl.st (U' := (Tt33.setTop (mkF m 9 #[.val (.ref kk), .val (.ref kk), .val (.ref kk), .val (.ref kk)] [(.ref kk), (.ref mr)]))) (fun _ zz => XS.aloadN Xt33.here hx rfl (hb hby d8_8) rfl rfl zz) ?_
  obtain ⟨Tt34, Xt34, et34, stt34⟩ := own_gcls Xt33 hx hZ hown (hw _ (List.mem_of_getElem? (i := 54) rfl)) (hw _ (List.mem_of_getElem? (i := 55) rfl)) (hw _ (List.mem_of_getElem? (i := 32) rfl)) (hw _ (List.mem_of_getElem? (i := 57) rfl)) (hw _ (List.mem_of_getElem? (i := 56) rfl)) (hw _ (List.mem_of_getElem? (i := 58) rfl)) et33 EK m1 m2 m3 (g := (mkF m 9 #[.val (.ref kk), .val (.ref kk), .val (.ref kk), .val (.ref kk)] [(.ref kk), (.ref mr)])) rfl (by rw [hml]; rfl) rfl (hb hby d8_9) (by decide) (W := 1) (by show 2 * 0 + _ ≤ _; exact Nat.le_of_eq rfl) (by decide)
  refine Gl.st (U' := (Tt34.setTop (mkF m 12 #[.val (.ref kk), .val (.ref kk), .val (.ref kk), .val (.ref kk)] [(.ref mr), (.ref mr)]))) stt34 ?_
  refine Gl.st (U' := (Tt34.setTop (mkF m 34 #[.val (.ref kk), .val (.ref kk), .val (.ref kk), .val (.ref kk)] []))) (fun _ zz => Jvm.RoadKit.acmp (g := (mkF m 12 #[.val (.ref kk), .val (.ref kk), .val (.ref kk), .val (.ref kk)] [(.ref mr), (.ref mr)])) Xt34 hx rfl rfl rfl (pc0 := 12) (pc' := 34) (same := true) rfl (hb hby d8_12) rfl (decide_eq_true (congrArg Value.ref rfl)) (by decide) (by decide) zz) ?_
  refine Gl.st (U' := (Tt34.setTop (mkF m 35 #[.val (.ref kk), .val (.ref kk), .val (.ref kk), .val (.ref kk)] [(.ref kk)]))) (fun _ zz => XS.aloadN Xt34.here hx rfl (hb hby d8_34) rfl rfl zz) ?_
  obtain ⟨Tt35, Xt35, et35, stt35⟩ := getF Xt34 hx hZ hown (host := "") (Or.inl (hw _ (List.mem_of_getElem? (i := 60) rfl))) Via.refl et34 FK (g := (mkF m 35 #[.val (.ref kk), .val (.ref kk), .val (.ref kk), .val (.ref kk)] [(.ref kk)])) rfl rfl (hb hby d8_35)
  refine Gl.st (U' := (Tt35.setTop (mkF m 38 #[.val (.ref kk), .val (.ref kk), .val (.ref kk), .val (.ref kk)] [(.int (4 : Int32))]))) stt35 ?_
  refine Gl.st (U' := (Tt35.setTop (mkF m 39 #[.val (.ref kk), .val (.ref kk), .val (.ref kk), .val (.ref kk)] [(.ref kk), (.int (4 : Int32))]))) (fun _ zz => XS.aloadN Xt35.here hx rfl (hb hby d8_38) rfl rfl zz) ?_
  obtain ⟨Tt36, Xt36, et36, stt36⟩ := getF Xt35 hx hZ hown (host := "") (Or.inl (hw _ (List.mem_of_getElem? (i := 60) rfl))) Via.refl et35 FK (g := (mkF m 39 #[.val (.ref kk), .val (.ref kk), .val (.ref kk), .val (.ref kk)] [(.ref kk), (.int (4 : Int32))])) rfl rfl (hb hby d8_39)
  refine Gl.st (U' := (Tt36.setTop (mkF m 42 #[.val (.ref kk), .val (.ref kk), .val (.ref kk), .val (.ref kk)] [(.int (4 : Int32)), (.int (4 : Int32))]))) stt36 ?_
  refine Gl.st (U' := (Tt36.setTop (mkF m 43 #[.val (.ref kk), .val (.ref kk), .val (.ref kk), .val (.ref kk)] [(.int ((4 : Int32) - (4 : Int32)))]))) (fun _ zz => XS.isub Xt36.here hx rfl (hb hby d8_42) rfl zz) ?_
  exact Gl.retI Xt36 hx hret hlk (hb hby d8_43) ⟨rfl, rfl, et36⟩ (by decide) (by decide)
theorem own_pdK : parseMethodDescriptor "()Lcom/example/ironbound_models/ironboundmodels/interpreter/Value$Kind;" = some ⟨[], some (.object "com/example/ironbound_models/ironboundmodels/interpreter/Value$Kind")⟩ := by decide +kernel
theorem own_pdE : parseMethodDescriptor "(Ljava/lang/Enum;)I" = some ⟨[.object "java/lang/Enum"], some .int⟩ := by decide +kernel
theorem own_pdW : parseMethodDescriptor "(Lcom/example/ironbound_models/ironboundmodels/interpreter/Value;)I" = some ⟨[.object "com/example/ironbound_models/ironboundmodels/interpreter/Value"], some .int⟩ := by decide +kernel
theorem own_pdQ : parseMethodDescriptor "(Ljava/lang/Object;)Z" = some ⟨[.object "java/lang/Object"], some .boolean⟩ := by decide +kernel
theorem own_pdO : parseMethodDescriptor "(I)Ljava/lang/Integer;" = some ⟨[.int], some (.object "java/lang/Integer")⟩ := by decide +kernel
theorem d6_0 : decode prog_209_method_6_code 0 = .ok (.aload_n 0, 1) := by decide +kernel
theorem d6_1 : decode prog_209_method_6_code 1 = .ok (.invokevirtual 28, 3) := by decide +kernel
theorem d6_4 : decode prog_209_method_6_code 4 = .ok (.aload_n 1, 1) := by decide +kernel
theorem d6_5 : decode prog_209_method_6_code 5 = .ok (.invokevirtual 28, 3) := by decide +kernel
theorem d6_8 : decode prog_209_method_6_code 8 = .ok (.invokevirtual 32, 3) := by decide +kernel
theorem d6_11 : decode prog_209_method_6_code 11 = .ok (.istore_n 2, 1) := by decide +kernel
theorem d6_12 : decode prog_209_method_6_code 12 = .ok (.iload_n 2, 1) := by decide +kernel
theorem d6_13 : decode prog_209_method_6_code 13 = .ok (.ifCond .ne 9, 3) := by decide +kernel
theorem d6_16 : decode prog_209_method_6_code 16 = .ok (.aload_n 0, 1) := by decide +kernel
theorem d6_17 : decode prog_209_method_6_code 17 = .ok (.aload_n 1, 1) := by decide +kernel
theorem d6_18 : decode prog_209_method_6_code 18 = .ok (.invokevirtual 38, 3) := by decide +kernel
theorem d6_21 : decode prog_209_method_6_code 21 = .ok (.istore_n 2, 1) := by decide +kernel
theorem d6_22 : decode prog_209_method_6_code 22 = .ok (.iload_n 2, 1) := by decide +kernel
theorem d6_23 : decode prog_209_method_6_code 23 = .ok (.ireturn, 1) := by decide +kernel
set_option maxRecDepth 65536 in
set_option maxHeartbeats 40000000 in
theorem own_vc (l : Launch) (Z : State) (a0 : Array Value) (hw : ∀ d ∈ tables_1, d.before a0 Z = true) (h0 : Heap) (kk mr : Addr) (cK : ClassId) (kK : Class) (m1 : Z.vm.findClass "com/example/ironbound_models/ironboundmodels/interpreter/Value$Kind" = some cK) (m2 : Z.vm.classes[cK]? = some kK) (m3 : kK.mirror = some mr) (SK : Sta Z h0 "com/example/ironbound_models/ironboundmodels/interpreter/Value$Kind" "CHAR" "Lcom/example/ironbound_models/ironboundmodels/interpreter/Value$Kind;" (.ref kk)) (EK : Exa Z h0 kk "com/example/ironbound_models/ironboundmodels/interpreter/Value$Kind") (FK : Fld Z h0 kk "java/lang/Enum" "ordinal" "I" (.int 4)) (a b : Addr) (x y : Int32) (HA : own_C Z h0 a x) (HB : own_C Z h0 b y) :
    Con [] l Z (⟨"com/example/ironbound_models/ironboundmodels/interpreter/Value", "compareTo", "(Lcom/example/ironbound_models/ironboundmodels/interpreter/Value;)I"⟩ : MethodName) prog_209_method_6_code 3 (Option.some Jvm.ClassFile.FieldType.int) ({ frames := 2, cells := 0, slots := 0, locals := 62 } : Room) #[(.ref a), (.ref b)] h0 (fun v h L => ∃ z, v = some (.int z) ∧ (z = 0 ↔ x = y) ∧ L = [] ∧ h = h0) := by
  refine Con.of (Ls := #[.val (.ref a), .val (.ref b), .unset]) (by first | exact plainFor_of_name (by first | (simp [plainName, overriddenIn]; done) | decide +kernel) | decide +kernel) (fun m => by first | rfl | (simp [entryFrame, mkF, argsToLocals, Value.category]; done)) ?_
  intro p e s m below meth c T0 hx hby hml hown hnm hret hlk hZ e0 X0
  refine Gl.st (U' := (T0.setTop (mkF m 1 #[.val (.ref a), .val (.ref b), .unset] [(.ref a)]))) (fun _ zz => XS.aloadN X0.here hx rfl (hb hby d6_0) rfl rfl zz) ?_
  refine gCallV X0 hx hZ (y := (⟨"com/example/ironbound_models/ironboundmodels/interpreter/Value", "kind", "()Lcom/example/ironbound_models/ironboundmodels/interpreter/Value$Kind;"⟩ : MethodName)) (z := (⟨"com/example/ironbound_models/ironboundmodels/interpreter/CharValue", "kind", "()Lcom/example/ironbound_models/ironboundmodels/interpreter/Value$Kind;"⟩ : MethodName)) hown (hw _ (List.mem_of_getElem? (i := 39) rfl)) (hw _ (List.mem_of_getElem? (i := 40) rfl)) (hw _ (List.mem_of_getElem? (i := 41) rfl)) (own_nf (args := #[]) (mvT hZ (hw _ (List.mem_of_getElem? (i := 37) rfl))) rfl) (hw _ (List.mem_of_getElem? (i := 42) rfl)) (hw _ (List.mem_of_getElem? (i := 2) rfl)) (hw _ (List.mem_of_getElem? (i := 43) rfl)) (by decide) (own_kind l Z a0 hw h0 a kk SK) e0 HA.1 (by decide) (W := 0) (by decide) (by decide) (by decide) (g := (mkF m 1 #[.val (.ref a), .val (.ref b), .unset] [(.ref a)])) rfl (by rw [hml]; rfl) (argsL := []) (rest := []) (lenOf own_pdK rfl) rfl rfl (by show 2 * 0 + _ ≤ _; exact Nat.le_of_eq rfl) (hb hby d6_1) ?_
  rintro _ Tt37 Lt37 Xt37 ⟨rfl, rfl, et37⟩
  show Gl p e below _ (Tt37.setTop (mkF m 4 #[.val (.ref a), .val (.ref b), .unset] [(.ref kk)]))
  refine Gl.st (U' := (Tt37.setTop (mkF m 5 #[.val (.ref a), .val (.ref b), .unset] [(.ref b), (.ref kk)]))) (fun _ zz => XS.aloadN Xt37.here hx rfl (hb hby d6_4) rfl rfl zz) ?_
  refine gCallV Xt37 hx hZ (y := (⟨"com/example/ironbound_models/ironboundmodels/interpreter/Value", "kind", "()Lcom/example/ironbound_models/ironboundmodels/interpreter/Value$Kind;"⟩ : MethodName)) (z := (⟨"com/example/ironbound_models/ironboundmodels/interpreter/CharValue", "kind", "()Lcom/example/ironbound_models/ironboundmodels/interpreter/Value$Kind;"⟩ : MethodName)) hown (hw _ (List.mem_of_getElem? (i := 39) rfl)) (hw _ (List.mem_of_getElem? (i := 40) rfl)) (hw _ (List.mem_of_getElem? (i := 41) rfl)) (own_nf (args := #[]) (mvT hZ (hw _ (List.mem_of_getElem? (i := 37) rfl))) rfl) (hw _ (List.mem_of_getElem? (i := 42) rfl)) (hw _ (List.mem_of_getElem? (i := 2) rfl)) (hw _ (List.mem_of_getElem? (i := 43) rfl)) (by decide) (own_kind l Z a0 hw h0 b kk SK) et37 HB.1 (by decide) (W := 1) (by decide) (by decide) (by decide) (g := (mkF m 5 #[.val (.ref a), .val (.ref b), .unset] [(.ref b), (.ref kk)])) rfl (by rw [hml]; rfl) (argsL := []) (rest := [(.ref kk)]) (lenOf own_pdK rfl) rfl rfl (by show 2 * 0 + _ ≤ _; exact Nat.le_of_eq rfl) (hb hby d6_5) ?_
  rintro _ Tt38 Lt38 Xt38 ⟨rfl, rfl, et38⟩
  show Gl p e below _ (Tt38.setTop (mkF m 8 #[.val (.ref a), .val (.ref b), .unset] [(.ref kk), (.ref kk)]))
  refine gCallU Xt38 hx hZ (y := (⟨"com/example/ironbound_models/ironboundmodels/interpreter/Value$Kind", "compareTo", "(Ljava/lang/Enum;)I"⟩ : MethodName)) (z := (⟨"java/lang/Enum", "compareTo", "(Ljava/lang/Enum;)I"⟩ : MethodName)) (owner := "java/lang/Enum") hown (hw _ (List.mem_of_getElem? (i := 47) rfl)) (hw _ (List.mem_of_getElem? (i := 48) rfl)) (hw _ (List.mem_of_getElem? (i := 49) rfl)) (hw _ (List.mem_of_getElem? (i := 51) rfl)) (hw _ (List.mem_of_getElem? (i := 50) rfl)) (hw _ (List.mem_of_getElem? (i := 52) rfl)) (hw _ (List.mem_of_getElem? (i := 53) rfl)) (by decide) (own_ec l Z a0 hw h0 kk mr cK kK m1 m2 m3 EK FK) et38 EK (by decide) (W := 0) (by decide) (by decide) (by decide) (g := (mkF m 8 #[.val (.ref a), .val (.ref b), .unset] [(.ref kk), (.ref kk)])) rfl (by rw [hml]; rfl) (argsL := [(.ref kk)]) (rest := []) (lenOf own_pdE rfl) rfl rfl (by show 2 * 0 + _ ≤ _; exact Nat.le_of_eq rfl) (hb hby d6_8) ?_
  rintro _ Tt39 Lt39 Xt39 ⟨rfl, rfl, et39⟩
  show Gl p e below _ (Tt39.setTop (mkF m 11 #[.val (.ref a), .val (.ref b), .unset] [(.int (0 : Int32))]))
  refine Gl.st (U' := (Tt39.setTop (mkF m 12 #[.val (.ref a), .val (.ref b), .val (.int (0 : Int32))] []))) (fun _ zz => XS.istoreN Xt39.here hx rfl (hb hby d6_11) rfl (l' := #[.val (.ref a), .val (.ref b), .val (.int (0 : Int32))]) rfl zz) ?_
  refine Gl.st (U' := (Tt39.setTop (mkF m 13 #[.val (.ref a), .val (.ref b), .val (.int (0 : Int32))] [(.int (0 : Int32))]))) (fun _ zz => XS.iloadN Xt39.here hx rfl (hb hby d6_12) rfl zz) ?_
  refine Gl.st (U' := (Tt39.setTop (mkF m 16 #[.val (.ref a), .val (.ref b), .val (.int (0 : Int32))] []))) (fun _ zz => XS.ifNo Xt39.here hx rfl (hb hby d6_13) rfl ((if0 _ _).trans (teq rfl).2) zz) ?_
  refine Gl.st (U' := (Tt39.setTop (mkF m 17 #[.val (.ref a), .val (.ref b), .val (.int (0 : Int32))] [(.ref a)]))) (fun _ zz => XS.aloadN Xt39.here hx rfl (hb hby d6_16) rfl rfl zz) ?_
  refine Gl.st (U' := (Tt39.setTop (mkF m 18 #[.val (.ref a), .val (.ref b), .val (.int (0 : Int32))] [(.ref b), (.ref a)]))) (fun _ zz => XS.aloadN Xt39.here hx rfl (hb hby d6_17) rfl rfl zz) ?_
  refine gCallV Xt39 hx hZ (y := (⟨"com/example/ironbound_models/ironboundmodels/interpreter/Value", "compareWithin", "(Lcom/example/ironbound_models/ironboundmodels/interpreter/Value;)I"⟩ : MethodName)) (z := (⟨"com/example/ironbound_models/ironboundmodels/interpreter/CharValue", "compareWithin", "(Lcom/example/ironbound_models/ironboundmodels/interpreter/Value;)I"⟩ : MethodName)) hown (hw _ (List.mem_of_getElem? (i := 62) rfl)) (hw _ (List.mem_of_getElem? (i := 63) rfl)) (hw _ (List.mem_of_getElem? (i := 64) rfl)) (own_nf (args := #[]) (mvT hZ (hw _ (List.mem_of_getElem? (i := 37) rfl))) rfl) (hw _ (List.mem_of_getElem? (i := 65) rfl)) (hw _ (List.mem_of_getElem? (i := 2) rfl)) (hw _ (List.mem_of_getElem? (i := 66) rfl)) (by decide) (own_cw l Z a0 hw h0 a b x y HA HB) et39 HA.1 (by decide) (W := 0) (by decide) (by decide) (by decide) (g := (mkF m 18 #[.val (.ref a), .val (.ref b), .val (.int (0 : Int32))] [(.ref b), (.ref a)])) rfl (by rw [hml]; rfl) (argsL := [(.ref b)]) (rest := []) (lenOf own_pdW rfl) rfl rfl (by show 2 * 0 + _ ≤ _; exact Nat.le_of_eq rfl) (hb hby d6_18) ?_
  rintro _ Tt40 Lt40 Xt40 ⟨z, rfl, hz, rfl, et40⟩
  show Gl p e below _ (Tt40.setTop (mkF m 21 #[.val (.ref a), .val (.ref b), .val (.int (0 : Int32))] [(.int z)]))
  refine Gl.st (U' := (Tt40.setTop (mkF m 22 #[.val (.ref a), .val (.ref b), .val (.int z)] []))) (fun _ zz => XS.istoreN Xt40.here hx rfl (hb hby d6_21) rfl (l' := #[.val (.ref a), .val (.ref b), .val (.int z)]) rfl zz) ?_
  refine Gl.st (U' := (Tt40.setTop (mkF m 23 #[.val (.ref a), .val (.ref b), .val (.int z)] [(.int z)]))) (fun _ zz => XS.iloadN Xt40.here hx rfl (hb hby d6_22) rfl zz) ?_
  exact Gl.retI Xt40 hx hret hlk (hb hby d6_23) ⟨_, rfl, hz, rfl, et40⟩ (by decide) (by decide)
set_option maxRecDepth 65536 in
set_option maxHeartbeats 40000000 in
theorem own_law (l : Launch) (Z : State) (a0 : Array Value) (hw : ∀ d ∈ tables_1, d.before a0 Z = true) (h0 : Heap) (n0 : Nat) (O0 : Old Z n0 h0) (kk mr : Addr) (cK : ClassId) (kK : Class) (m1 : Z.vm.findClass "com/example/ironbound_models/ironboundmodels/interpreter/Value$Kind" = some cK) (m2 : Z.vm.classes[cK]? = some kK) (m3 : kK.mirror = some mr) (SK : Sta Z Z.heap "com/example/ironbound_models/ironboundmodels/interpreter/Value$Kind" "CHAR" "Lcom/example/ironbound_models/ironboundmodels/interpreter/Value$Kind;" (.ref kk)) (EK : Exa Z Z.heap kk "com/example/ironbound_models/ironboundmodels/interpreter/Value$Kind") (FK : Fld Z Z.heap kk "java/lang/Enum" "ordinal" "I" (.int 4)) (ca : Addr) (cc : Cell) (vf : Int32 → Value) (S1 : Sta Z Z.heap "java/lang/Integer$IntegerCache" "high" "I" (.int 127)) (S2 : Sta Z Z.heap "java/lang/Integer$IntegerCache" "cache" "[Ljava/lang/Integer;" (.ref ca)) (BX : Bxs Z ca cc "java/lang/Integer" "I" 256 vf) (p0 p1 p2 : Int32) :
    Con tables_1 l Z x code maxLocals ret room_1 #[(.int p0), (.int p1), (.int p2)] h0 (fun v h L => v = some (.int 1) ∧ Fr n0 L) := by
  refine Con.of (Ls := #[.val (.int p0), .val (.int p1), .val (.int p2), .unset, .unset, .unset, .unset, .unset, .unset, .unset, .unset, .unset]) (by first | exact plainFor_of_name (by first | (simp [plainName, overriddenIn]; done) | decide +kernel) | decide +kernel) (fun m => by first | rfl | (simp [entryFrame, mkF, argsToLocals, Value.category]; done)) ?_
  intro p e s m below meth c T0 hx hby hml hown hnm hret hlk hZ e0 X0
  have hml : c.maxLocals = 12 := hml
  have N0 := Fr.nil n0
  refine Gl.st (U' := (T0.setTop (mkF m 1 #[.val (.int p0), .val (.int p1), .val (.int p2), .unset, .unset, .unset, .unset, .unset, .unset, .unset, .unset, .unset] [(.int p2)]))) (fun _ zz => XS.iloadN X0.here hx rfl (hb hby at_0) rfl zz) ?_
  refine Gl.st (U' := (T0.setTop (mkF m 2 #[.val (.int p0), .val (.int p1), .val (.int p2), .unset, .unset, .unset, .unset, .unset, .unset, .unset, .unset, .unset] [(.int (1 : Int32)), (.int p2)]))) (fun _ zz => XS.iconst X0.here hx rfl (hb hby at_1) zz) ?_
  refine Gl.st (U' := (T0.setTop (mkF m 3 #[.val (.int p0), .val (.int p1), .val (.int p2), .unset, .unset, .unset, .unset, .unset, .unset, .unset, .unset, .unset] [(.int (p2 &&& (1 : Int32)))]))) (fun _ zz => XS.iand X0.here hx rfl (hb hby at_2) rfl zz) ?_
  refine Gl.join (α := Int32) (P := fun bb => True) (f := fun bb => (T0.setTop (mkF m 11 #[.val (.int p0), .val (.int p1), .val (.int p2), .unset, .unset, .unset, .unset, .unset, .unset, .unset, .unset, .unset] [(.int bb)]))) ?_ ?_
  · intro Jbb
    by_cases q : (p2 &&& (1 : Int32)) = (0 : Int32)
    · refine Gl.st (U' := (T0.setTop (mkF m 10 #[.val (.int p0), .val (.int p1), .val (.int p2), .unset, .unset, .unset, .unset, .unset, .unset, .unset, .unset, .unset] []))) (fun _ zz => XS.ifYes X0.here hx rfl (pc0 := 3) (pc' := 10) rfl (hb hby at_3) rfl ((if0 _ _).trans (teq q).1) (by decide) (by decide) zz) ?_
      refine Gl.st (U' := (T0.setTop (mkF m 11 #[.val (.int p0), .val (.int p1), .val (.int p2), .unset, .unset, .unset, .unset, .unset, .unset, .unset, .unset, .unset] [(.int p1)]))) (fun _ zz => XS.iloadN X0.here hx rfl (hb hby at_10) rfl zz) ?_
      exact Jbb p1 trivial
    · refine Gl.st (U' := (T0.setTop (mkF m 6 #[.val (.int p0), .val (.int p1), .val (.int p2), .unset, .unset, .unset, .unset, .unset, .unset, .unset, .unset, .unset] []))) (fun _ zz => XS.ifNo X0.here hx rfl (hb hby at_3) rfl ((if0 _ _).trans (feq q).1) zz) ?_
      refine Gl.st (U' := (T0.setTop (mkF m 7 #[.val (.int p0), .val (.int p1), .val (.int p2), .unset, .unset, .unset, .unset, .unset, .unset, .unset, .unset, .unset] [(.int p0)]))) (fun _ zz => XS.iloadN X0.here hx rfl (hb hby at_6) rfl zz) ?_
      refine Gl.st (U' := (T0.setTop (mkF m 11 #[.val (.int p0), .val (.int p1), .val (.int p2), .unset, .unset, .unset, .unset, .unset, .unset, .unset, .unset, .unset] [(.int p0)]))) (fun _ zz => XS.goto X0.here hx rfl (pc0 := 7) (pc' := 11) rfl (hb hby at_7) (by decide) (by decide) zz) ?_
      exact Jbb p0 trivial
  intro bb hbb
  show Gl p e below _ (T0.setTop (mkF m 11 #[.val (.int p0), .val (.int p1), .val (.int p2), .unset, .unset, .unset, .unset, .unset, .unset, .unset, .unset, .unset] [(.int bb)]))
  refine Gl.st (U' := (T0.setTop (mkF m 12 #[.val (.int p0), .val (.int p1), .val (.int p2), .val (.int bb), .unset, .unset, .unset, .unset, .unset, .unset, .unset, .unset] []))) (fun _ zz => XS.istoreN X0.here hx rfl (hb hby at_11) rfl (l' := #[.val (.int p0), .val (.int p1), .val (.int p2), .val (.int bb), .unset, .unset, .unset, .unset, .unset, .unset, .unset, .unset]) rfl zz) ?_
  obtain ⟨Tt41, ht41, Xt41, et41, Et41, At41, Dt41, Mt41, stt41⟩ := newO X0 hx hZ hown (hw _ (List.mem_of_getElem? (i := 0) rfl)) (hw _ (List.mem_of_getElem? (i := 1) rfl)) (hw _ (List.mem_of_getElem? (i := 2) rfl)) e0 (g := (mkF m 12 #[.val (.int p0), .val (.int p1), .val (.int p2), .val (.int bb), .unset, .unset, .unset, .unset, .unset, .unset, .unset, .unset] [])) rfl (hb hby at_12) (by decide) (by decide)
  obtain ⟨at41, gt41⟩ : ∃ z, z = h0.size := ⟨_, rfl⟩
  rw [← gt41] at At41 Dt41 Mt41 stt41
  refine Gl.st (U' := (Tt41.setTop (mkF m 15 #[.val (.int p0), .val (.int p1), .val (.int p2), .val (.int bb), .unset, .unset, .unset, .unset, .unset, .unset, .unset, .unset] [(.ref at41)]))) stt41 ?_
  have OX := Old.ext O0 Et41
  have gaX : n0 ≤ at41 := by rw [gt41]; exact Nat.le_trans (Nat.le_of_eq O0.1.symm) O0.2.1
  refine Gl.st (U' := (Tt41.setTop (mkF m 16 #[.val (.int p0), .val (.int p1), .val (.int p2), .val (.int bb), .unset, .unset, .unset, .unset, .unset, .unset, .unset, .unset] [(.ref at41), (.ref at41)]))) (fun _ zz => XS.dup Xt41.here hx rfl (hb hby at_15) rfl rfl zz) ?_
  refine Gl.st (U' := (Tt41.setTop (mkF m 17 #[.val (.int p0), .val (.int p1), .val (.int p2), .val (.int bb), .unset, .unset, .unset, .unset, .unset, .unset, .unset, .unset] [(.int p0), (.ref at41), (.ref at41)]))) (fun _ zz => XS.iloadN Xt41.here hx rfl (hb hby at_16) rfl zz) ?_
  refine gCallI Xt41 hx hZ (y := (⟨"com/example/ironbound_models/ironboundmodels/interpreter/CharValue", "<init>", "(I)V"⟩ : MethodName)) rfl hown (hw _ (List.mem_of_getElem? (i := 3) rfl)) (hw _ (List.mem_of_getElem? (i := 4) rfl)) (hw _ (List.mem_of_getElem? (i := 2) rfl)) (hw _ (List.mem_of_getElem? (i := 5) rfl)) (by decide) (own_cini l Z a0 hw ht41 n0 at41 gaX p0 At41 (own_K_new Mt41)) et41 (by decide) (W := 1) (by decide) (by decide) (by decide) (g := (mkF m 17 #[.val (.int p0), .val (.int p1), .val (.int p2), .val (.int bb), .unset, .unset, .unset, .unset, .unset, .unset, .unset, .unset] [(.int p0), (.ref at41), (.ref at41)])) rfl (by rw [hml]; rfl) (argsL := [(.int p0)]) (rest := [(.ref at41)]) (lenOf own_pdI rfl) rfl rfl (by show 2 * 0 + _ ≤ _; exact Nat.le_of_eq rfl) (hb hby at_17) ?_
  rintro _ Tt42 Lt42 Xt42 ⟨rfl, Nt42, Pt42, Ct42⟩
  show Gl p e below _ (Tt42.setTop (mkF m 20 #[.val (.int p0), .val (.int p1), .val (.int p2), .val (.int bb), .unset, .unset, .unset, .unset, .unset, .unset, .unset, .unset] [(.ref at41)]))
  have NXx := Fr.app N0 Nt42
  have OXx := Old.keep OX Pt42 (fun x hx => by rw [List.mem_singleton.mp hx]; exact gaX)
  refine Gl.st (U' := (Tt42.setTop (mkF m 22 #[.val (.int p0), .val (.int p1), .val (.int p2), .val (.int bb), .val (.ref at41), .unset, .unset, .unset, .unset, .unset, .unset, .unset] []))) (fun _ zz => XS.astore Xt42.here hx rfl (hb hby at_20) rfl rfl (l' := #[.val (.int p0), .val (.int p1), .val (.int p2), .val (.int bb), .val (.ref at41), .unset, .unset, .unset, .unset, .unset, .unset, .unset]) rfl zz) ?_
  obtain ⟨Tt43, ht43, Xt43, et43, Et43, At43, Dt43, Mt43, stt43⟩ := newO Xt42 hx hZ hown (hw _ (List.mem_of_getElem? (i := 0) rfl)) (hw _ (List.mem_of_getElem? (i := 1) rfl)) (hw _ (List.mem_of_getElem? (i := 2) rfl)) (rfl : Tt42.heap = Tt42.heap) (g := (mkF m 22 #[.val (.int p0), .val (.int p1), .val (.int p2), .val (.int bb), .val (.ref at41), .unset, .unset, .unset, .unset, .unset, .unset, .unset] [])) rfl (hb hby at_22) (by decide) (by decide)
  obtain ⟨at43, gt43⟩ : ∃ z, z = Tt42.heap.size := ⟨_, rfl⟩
  rw [← gt43] at At43 Dt43 Mt43 stt43
  refine Gl.st (U' := (Tt43.setTop (mkF m 25 #[.val (.int p0), .val (.int p1), .val (.int p2), .val (.int bb), .val (.ref at41), .unset, .unset, .unset, .unset, .unset, .unset, .unset] [(.ref at43)]))) stt43 ?_
  have OY := Old.ext OXx Et43
  have gaY : n0 ≤ at43 := by rw [gt43]; exact Nat.le_trans (Nat.le_of_eq OXx.1.symm) OXx.2.1
  refine Gl.st (U' := (Tt43.setTop (mkF m 26 #[.val (.int p0), .val (.int p1), .val (.int p2), .val (.int bb), .val (.ref at41), .unset, .unset, .unset, .unset, .unset, .unset, .unset] [(.ref at43), (.ref at43)]))) (fun _ zz => XS.dup Xt43.here hx rfl (hb hby at_25) rfl rfl zz) ?_
  refine Gl.st (U' := (Tt43.setTop (mkF m 27 #[.val (.int p0), .val (.int p1), .val (.int p2), .val (.int bb), .val (.ref at41), .unset, .unset, .unset, .unset, .unset, .unset, .unset] [(.int bb), (.ref at43), (.ref at43)]))) (fun _ zz => XS.iloadN Xt43.here hx rfl (hb hby at_26) rfl zz) ?_
  refine gCallI Xt43 hx hZ (y := (⟨"com/example/ironbound_models/ironboundmodels/interpreter/CharValue", "<init>", "(I)V"⟩ : MethodName)) rfl hown (hw _ (List.mem_of_getElem? (i := 3) rfl)) (hw _ (List.mem_of_getElem? (i := 4) rfl)) (hw _ (List.mem_of_getElem? (i := 2) rfl)) (hw _ (List.mem_of_getElem? (i := 5) rfl)) (by decide) (own_cini l Z a0 hw ht43 n0 at43 gaY bb At43 (own_K_new Mt43)) et43 (by decide) (W := 1) (by decide) (by decide) (by decide) (g := (mkF m 27 #[.val (.int p0), .val (.int p1), .val (.int p2), .val (.int bb), .val (.ref at41), .unset, .unset, .unset, .unset, .unset, .unset, .unset] [(.int bb), (.ref at43), (.ref at43)])) rfl (by rw [hml]; rfl) (argsL := [(.int bb)]) (rest := [(.ref at43)]) (lenOf own_pdI rfl) rfl rfl (by show 2 * 0 + _ ≤ _; exact Nat.le_of_eq rfl) (hb hby at_27) ?_
  rintro _ Tt44 Lt44 Xt44 ⟨rfl, Nt44, Pt44, Ct44⟩
  show Gl p e below _ (Tt44.setTop (mkF m 30 #[.val (.int p0), .val (.int p1), .val (.int p2), .val (.int bb), .val (.ref at41), .unset, .unset, .unset, .unset, .unset, .unset, .unset] [(.ref at43)]))
  have NYx := Fr.app NXx Nt44
  have OYx := Old.keep OY Pt44 (fun x hx => by rw [List.mem_singleton.mp hx]; exact gaY)
  have CYat41 := own_C_keep Pt44 (ninS (by rw [gt43]; exact Nat.ne_of_lt (Exa.lt Ct42.1)) nin0) (own_C_ext Et43 Ct42)
  refine Gl.st (U' := (Tt44.setTop (mkF m 32 #[.val (.int p0), .val (.int p1), .val (.int p2), .val (.int bb), .val (.ref at41), .val (.ref at43), .unset, .unset, .unset, .unset, .unset, .unset] []))) (fun _ zz => XS.astore Xt44.here hx rfl (hb hby at_30) rfl rfl (l' := #[.val (.int p0), .val (.int p1), .val (.int p2), .val (.int bb), .val (.ref at41), .val (.ref at43), .unset, .unset, .unset, .unset, .unset, .unset]) rfl zz) ?_
  obtain ⟨Tt45, ht45, Xt45, et45, Et45, At45, Dt45, Mt45, stt45⟩ := newO Xt44 hx hZ hown (hw _ (List.mem_of_getElem? (i := 0) rfl)) (hw _ (List.mem_of_getElem? (i := 1) rfl)) (hw _ (List.mem_of_getElem? (i := 2) rfl)) (rfl : Tt44.heap = Tt44.heap) (g := (mkF m 32 #[.val (.int p0), .val (.int p1), .val (.int p2), .val (.int bb), .val (.ref at41), .val (.ref at43), .unset, .unset, .unset, .unset, .unset, .unset] [])) rfl (hb hby at_32) (by decide) (by decide)
  obtain ⟨at45, gt45⟩ : ∃ z, z = Tt44.heap.size := ⟨_, rfl⟩
  rw [← gt45] at At45 Dt45 Mt45 stt45
  refine Gl.st (U' := (Tt45.setTop (mkF m 35 #[.val (.int p0), .val (.int p1), .val (.int p2), .val (.int bb), .val (.ref at41), .val (.ref at43), .unset, .unset, .unset, .unset, .unset, .unset] [(.ref at45)]))) stt45 ?_
  have OW := Old.ext OYx Et45
  have gaW : n0 ≤ at45 := by rw [gt45]; exact Nat.le_trans (Nat.le_of_eq OYx.1.symm) OYx.2.1
  refine Gl.st (U' := (Tt45.setTop (mkF m 36 #[.val (.int p0), .val (.int p1), .val (.int p2), .val (.int bb), .val (.ref at41), .val (.ref at43), .unset, .unset, .unset, .unset, .unset, .unset] [(.ref at45), (.ref at45)]))) (fun _ zz => XS.dup Xt45.here hx rfl (hb hby at_35) rfl rfl zz) ?_
  refine Gl.st (U' := (Tt45.setTop (mkF m 37 #[.val (.int p0), .val (.int p1), .val (.int p2), .val (.int bb), .val (.ref at41), .val (.ref at43), .unset, .unset, .unset, .unset, .unset, .unset] [(.int p0), (.ref at45), (.ref at45)]))) (fun _ zz => XS.iloadN Xt45.here hx rfl (hb hby at_36) rfl zz) ?_
  refine gCallI Xt45 hx hZ (y := (⟨"com/example/ironbound_models/ironboundmodels/interpreter/CharValue", "<init>", "(I)V"⟩ : MethodName)) rfl hown (hw _ (List.mem_of_getElem? (i := 3) rfl)) (hw _ (List.mem_of_getElem? (i := 4) rfl)) (hw _ (List.mem_of_getElem? (i := 2) rfl)) (hw _ (List.mem_of_getElem? (i := 5) rfl)) (by decide) (own_cini l Z a0 hw ht45 n0 at45 gaW p0 At45 (own_K_new Mt45)) et45 (by decide) (W := 1) (by decide) (by decide) (by decide) (g := (mkF m 37 #[.val (.int p0), .val (.int p1), .val (.int p2), .val (.int bb), .val (.ref at41), .val (.ref at43), .unset, .unset, .unset, .unset, .unset, .unset] [(.int p0), (.ref at45), (.ref at45)])) rfl (by rw [hml]; rfl) (argsL := [(.int p0)]) (rest := [(.ref at45)]) (lenOf own_pdI rfl) rfl rfl (by show 2 * 0 + _ ≤ _; exact Nat.le_of_eq rfl) (hb hby at_37) ?_
  rintro _ Tt46 Lt46 Xt46 ⟨rfl, Nt46, Pt46, Ct46⟩
  show Gl p e below _ (Tt46.setTop (mkF m 40 #[.val (.int p0), .val (.int p1), .val (.int p2), .val (.int bb), .val (.ref at41), .val (.ref at43), .unset, .unset, .unset, .unset, .unset, .unset] [(.ref at45)]))
  have NWx := Fr.app NYx Nt46
  have OWx := Old.keep OW Pt46 (fun x hx => by rw [List.mem_singleton.mp hx]; exact gaW)
  have CWat41 := own_C_keep Pt46 (ninS (by rw [gt45]; exact Nat.ne_of_lt (Exa.lt CYat41.1)) nin0) (own_C_ext Et45 CYat41)
  have CWat43 := own_C_keep Pt46 (ninS (by rw [gt45]; exact Nat.ne_of_lt (Exa.lt Ct44.1)) nin0) (own_C_ext Et45 Ct44)
  refine Gl.st (U' := (Tt46.setTop (mkF m 42 #[.val (.int p0), .val (.int p1), .val (.int p2), .val (.int bb), .val (.ref at41), .val (.ref at43), .val (.ref at45), .unset, .unset, .unset, .unset, .unset] []))) (fun _ zz => XS.astore Xt46.here hx rfl (hb hby at_40) rfl rfl (l' := #[.val (.int p0), .val (.int p1), .val (.int p2), .val (.int bb), .val (.ref at41), .val (.ref at43), .val (.ref at45), .unset, .unset, .unset, .unset, .unset]) rfl zz) ?_
  refine Gl.st (U' := (Tt46.setTop (mkF m 43 #[.val (.int p0), .val (.int p1), .val (.int p2), .val (.int bb), .val (.ref at41), .val (.ref at43), .val (.ref at45), .unset, .unset, .unset, .unset, .unset] [.null]))) (fun _ zz => XS.aconstNull Xt46.here hx rfl (hb hby at_42) zz) ?_
  refine Gl.st (U' := (Tt46.setTop (mkF m 45 #[.val (.int p0), .val (.int p1), .val (.int p2), .val (.int bb), .val (.ref at41), .val (.ref at43), .val (.ref at45), .val .null, .unset, .unset, .unset, .unset] []))) (fun _ zz => XS.astore Xt46.here hx rfl (hb hby at_43) rfl rfl (l' := #[.val (.int p0), .val (.int p1), .val (.int p2), .val (.int bb), .val (.ref at41), .val (.ref at43), .val (.ref at45), .val .null, .unset, .unset, .unset, .unset]) rfl zz) ?_
  refine Gl.st (U' := (Tt46.setTop (mkF m 46 #[.val (.int p0), .val (.int p1), .val (.int p2), .val (.int bb), .val (.ref at41), .val (.ref at43), .val (.ref at45), .val .null, .unset, .unset, .unset, .unset] [(.int p0)]))) (fun _ zz => XS.iloadN Xt46.here hx rfl (hb hby at_45) rfl zz) ?_
  refine gCallS Xt46 hx hZ (y := (⟨"java/lang/Integer", "valueOf", "(I)Ljava/lang/Integer;"⟩ : MethodName)) hown (hw _ (List.mem_of_getElem? (i := 16) rfl)) (hw _ (List.mem_of_getElem? (i := 17) rfl)) (hw _ (List.mem_of_getElem? (i := 18) rfl)) (hw _ (List.mem_of_getElem? (i := 19) rfl)) (by decide) (own_vof l Z a0 hw Tt46.heap n0 OWx ca cc vf S1 S2 BX p0) (rfl : Tt46.heap = Tt46.heap) (by decide) (W := 0) (by decide) (by decide) (by decide) (g := (mkF m 46 #[.val (.int p0), .val (.int p1), .val (.int p2), .val (.int bb), .val (.ref at41), .val (.ref at43), .val (.ref at45), .val .null, .unset, .unset, .unset, .unset] [(.int p0)])) rfl (by rw [hml]; rfl) (argsL := [(.int p0)]) (rest := []) (lenOf own_pdO rfl) rfl rfl (by show 2 * 0 + _ ≤ _; exact Nat.le_of_eq rfl) (hb hby at_46) ?_
  rintro _ Tt47 Lt47 Xt47 ⟨bx, rfl, EX, Nt47, Pt47⟩
  show Gl p e below _ (Tt47.setTop (mkF m 49 #[.val (.int p0), .val (.int p1), .val (.int p2), .val (.int bb), .val (.ref at41), .val (.ref at43), .val (.ref at45), .val .null, .unset, .unset, .unset, .unset] [(.ref bx)]))
  have NF := Fr.app NWx Nt47
  have OF := Old.keep OWx Pt47 (fun x hx => nomatch hx)
  have CC0 := own_C_keep Pt47 nin0 CWat41
  have CC1 := own_C_keep Pt47 nin0 CWat43
  have CC2 := own_C_keep Pt47 nin0 Ct46
  refine Gl.st (U' := (Tt47.setTop (mkF m 51 #[.val (.int p0), .val (.int p1), .val (.int p2), .val (.int bb), .val (.ref at41), .val (.ref at43), .val (.ref at45), .val .null, .val (.ref bx), .unset, .unset, .unset] []))) (fun _ zz => XS.astore Xt47.here hx rfl (hb hby at_49) rfl rfl (l' := #[.val (.int p0), .val (.int p1), .val (.int p2), .val (.int bb), .val (.ref at41), .val (.ref at43), .val (.ref at45), .val .null, .val (.ref bx), .unset, .unset, .unset]) rfl zz) ?_
  refine Gl.st (U' := (Tt47.setTop (mkF m 53 #[.val (.int p0), .val (.int p1), .val (.int p2), .val (.int bb), .val (.ref at41), .val (.ref at43), .val (.ref at45), .val .null, .val (.ref bx), .unset, .unset, .unset] [(.ref at41)]))) (fun _ zz => XS.aload Xt47.here hx rfl (hb hby at_51) rfl rfl zz) ?_
  refine Gl.st (U' := (Tt47.setTop (mkF m 55 #[.val (.int p0), .val (.int p1), .val (.int p2), .val (.int bb), .val (.ref at41), .val (.ref at43), .val (.ref at45), .val .null, .val (.ref bx), .unset, .unset, .unset] [(.ref at43), (.ref at41)]))) (fun _ zz => XS.aload Xt47.here hx rfl (hb hby at_53) rfl rfl zz) ?_
  refine gCallV Xt47 hx hZ (y := (⟨"com/example/ironbound_models/ironboundmodels/interpreter/CharValue", "equals", "(Ljava/lang/Object;)Z"⟩ : MethodName)) (z := (⟨"com/example/ironbound_models/ironboundmodels/interpreter/CharValue", "equals", "(Ljava/lang/Object;)Z"⟩ : MethodName)) hown (hw _ (List.mem_of_getElem? (i := 23) rfl)) (hw _ (List.mem_of_getElem? (i := 24) rfl)) (hw _ (List.mem_of_getElem? (i := 26) rfl)) (own_nf (args := #[]) (mvT hZ (hw _ (List.mem_of_getElem? (i := 26) rfl))) rfl) (hw _ (List.mem_of_getElem? (i := 25) rfl)) (hw _ (List.mem_of_getElem? (i := 2) rfl)) (hw _ (List.mem_of_getElem? (i := 27) rfl)) (by decide) (own_eq l Z a0 hw Tt47.heap at41 at43 p0 bb CC0 CC1) (rfl : Tt47.heap = Tt47.heap) CC0.1 (by decide) (W := 0) (by decide) (by decide) (by decide) (g := (mkF m 55 #[.val (.int p0), .val (.int p1), .val (.int p2), .val (.int bb), .val (.ref at41), .val (.ref at43), .val (.ref at45), .val .null, .val (.ref bx), .unset, .unset, .unset] [(.ref at43), (.ref at41)])) rfl (by rw [hml]; rfl) (argsL := [(.ref at43)]) (rest := []) (lenOf own_pdQ rfl) rfl rfl (by show 2 * 0 + _ ≤ _; exact Nat.le_of_eq rfl) (hb hby at_55) ?_
  rintro _ Tt48 Lt48 Xt48 ⟨rfl, rfl, et48⟩
  show Gl p e below _ (Tt48.setTop (mkF m 58 #[.val (.int p0), .val (.int p1), .val (.int p2), .val (.int bb), .val (.ref at41), .val (.ref at43), .val (.ref at45), .val .null, .val (.ref bx), .unset, .unset, .unset] [(.int (own_bi (bb = p0)))]))
  refine Gl.st (U' := (Tt48.setTop (mkF m 60 #[.val (.int p0), .val (.int p1), .val (.int p2), .val (.int bb), .val (.ref at41), .val (.ref at43), .val (.ref at45), .val .null, .val (.ref bx), .val (.int (own_bi (bb = p0))), .unset, .unset] []))) (fun _ zz => XS.istore Xt48.here hx rfl (hb hby at_58) rfl (l' := #[.val (.int p0), .val (.int p1), .val (.int p2), .val (.int bb), .val (.ref at41), .val (.ref at43), .val (.ref at45), .val .null, .val (.ref bx), .val (.int (own_bi (bb = p0))), .unset, .unset]) rfl zz) ?_
  refine Gl.st (U' := (Tt48.setTop (mkF m 62 #[.val (.int p0), .val (.int p1), .val (.int p2), .val (.int bb), .val (.ref at41), .val (.ref at43), .val (.ref at45), .val .null, .val (.ref bx), .val (.int (own_bi (bb = p0))), .unset, .unset] [(.ref at43)]))) (fun _ zz => XS.aload Xt48.here hx rfl (hb hby at_60) rfl rfl zz) ?_
  refine Gl.st (U' := (Tt48.setTop (mkF m 64 #[.val (.int p0), .val (.int p1), .val (.int p2), .val (.int bb), .val (.ref at41), .val (.ref at43), .val (.ref at45), .val .null, .val (.ref bx), .val (.int (own_bi (bb = p0))), .unset, .unset] [(.ref at41), (.ref at43)]))) (fun _ zz => XS.aload Xt48.here hx rfl (hb hby at_62) rfl rfl zz) ?_
  refine gCallV Xt48 hx hZ (y := (⟨"com/example/ironbound_models/ironboundmodels/interpreter/CharValue", "equals", "(Ljava/lang/Object;)Z"⟩ : MethodName)) (z := (⟨"com/example/ironbound_models/ironboundmodels/interpreter/CharValue", "equals", "(Ljava/lang/Object;)Z"⟩ : MethodName)) hown (hw _ (List.mem_of_getElem? (i := 23) rfl)) (hw _ (List.mem_of_getElem? (i := 24) rfl)) (hw _ (List.mem_of_getElem? (i := 26) rfl)) (own_nf (args := #[]) (mvT hZ (hw _ (List.mem_of_getElem? (i := 26) rfl))) rfl) (hw _ (List.mem_of_getElem? (i := 25) rfl)) (hw _ (List.mem_of_getElem? (i := 2) rfl)) (hw _ (List.mem_of_getElem? (i := 27) rfl)) (by decide) (own_eq l Z a0 hw Tt47.heap at43 at41 bb p0 CC1 CC0) et48 CC1.1 (by decide) (W := 0) (by decide) (by decide) (by decide) (g := (mkF m 64 #[.val (.int p0), .val (.int p1), .val (.int p2), .val (.int bb), .val (.ref at41), .val (.ref at43), .val (.ref at45), .val .null, .val (.ref bx), .val (.int (own_bi (bb = p0))), .unset, .unset] [(.ref at41), (.ref at43)])) rfl (by rw [hml]; rfl) (argsL := [(.ref at41)]) (rest := []) (lenOf own_pdQ rfl) rfl rfl (by show 2 * 0 + _ ≤ _; exact Nat.le_of_eq rfl) (hb hby at_64) ?_
  rintro _ Tt49 Lt49 Xt49 ⟨rfl, rfl, et49⟩
  show Gl p e below _ (Tt49.setTop (mkF m 67 #[.val (.int p0), .val (.int p1), .val (.int p2), .val (.int bb), .val (.ref at41), .val (.ref at43), .val (.ref at45), .val .null, .val (.ref bx), .val (.int (own_bi (bb = p0))), .unset, .unset] [(.int (own_bi (p0 = bb)))]))
  refine Gl.st (U' := (Tt49.setTop (mkF m 69 #[.val (.int p0), .val (.int p1), .val (.int p2), .val (.int bb), .val (.ref at41), .val (.ref at43), .val (.ref at45), .val .null, .val (.ref bx), .val (.int (own_bi (bb = p0))), .val (.int (own_bi (p0 = bb))), .unset] []))) (fun _ zz => XS.istore Xt49.here hx rfl (hb hby at_67) rfl (l' := #[.val (.int p0), .val (.int p1), .val (.int p2), .val (.int bb), .val (.ref at41), .val (.ref at43), .val (.ref at45), .val .null, .val (.ref bx), .val (.int (own_bi (bb = p0))), .val (.int (own_bi (p0 = bb))), .unset]) rfl zz) ?_
  refine Gl.st (U' := (Tt49.setTop (mkF m 71 #[.val (.int p0), .val (.int p1), .val (.int p2), .val (.int bb), .val (.ref at41), .val (.ref at43), .val (.ref at45), .val .null, .val (.ref bx), .val (.int (own_bi (bb = p0))), .val (.int (own_bi (p0 = bb))), .unset] [(.int (own_bi (bb = p0)))]))) (fun _ zz => XS.iload Xt49.here hx rfl (hb hby at_69) rfl zz) ?_
  refine Gl.st (U' := (Tt49.setTop (mkF m 72 #[.val (.int p0), .val (.int p1), .val (.int p2), .val (.int bb), .val (.ref at41), .val (.ref at43), .val (.ref at45), .val .null, .val (.ref bx), .val (.int (own_bi (bb = p0))), .val (.int (own_bi (p0 = bb))), .unset] [(.int p0), (.int (own_bi (bb = p0)))]))) (fun _ zz => XS.iloadN Xt49.here hx rfl (hb hby at_71) rfl zz) ?_
  refine Gl.st (U' := (Tt49.setTop (mkF m 73 #[.val (.int p0), .val (.int p1), .val (.int p2), .val (.int bb), .val (.ref at41), .val (.ref at43), .val (.ref at45), .val .null, .val (.ref bx), .val (.int (own_bi (bb = p0))), .val (.int (own_bi (p0 = bb))), .unset] [(.int bb), (.int p0), (.int (own_bi (bb = p0)))]))) (fun _ zz => XS.iloadN Xt49.here hx rfl (hb hby at_72) rfl zz) ?_
  refine Gl.join (α := Int32) (P := fun t1 => t1 = own_bi (p0 = bb)) (f := fun t1 => (Tt49.setTop (mkF m 81 #[.val (.int p0), .val (.int p1), .val (.int p2), .val (.int bb), .val (.ref at41), .val (.ref at43), .val (.ref at45), .val .null, .val (.ref bx), .val (.int (own_bi (bb = p0))), .val (.int (own_bi (p0 = bb))), .unset] [(.int t1), (.int (own_bi (bb = p0)))]))) ?_ ?_
  · intro Jt1
    by_cases q : p0 = bb
    · refine Gl.st (U' := (Tt49.setTop (mkF m 76 #[.val (.int p0), .val (.int p1), .val (.int p2), .val (.int bb), .val (.ref at41), .val (.ref at43), .val (.ref at45), .val .null, .val (.ref bx), .val (.int (own_bi (bb = p0))), .val (.int (own_bi (p0 = bb))), .unset] [(.int (own_bi (bb = p0)))]))) (fun _ zz => XS.icmpNo Xt49.here hx rfl (hb hby at_73) rfl (teq q).2 zz) ?_
      refine Gl.st (U' := (Tt49.setTop (mkF m 77 #[.val (.int p0), .val (.int p1), .val (.int p2), .val (.int bb), .val (.ref at41), .val (.ref at43), .val (.ref at45), .val .null, .val (.ref bx), .val (.int (own_bi (bb = p0))), .val (.int (own_bi (p0 = bb))), .unset] [(.int (1 : Int32)), (.int (own_bi (bb = p0)))]))) (fun _ zz => XS.iconst Xt49.here hx rfl (hb hby at_76) zz) ?_
      refine Gl.st (U' := (Tt49.setTop (mkF m 81 #[.val (.int p0), .val (.int p1), .val (.int p2), .val (.int bb), .val (.ref at41), .val (.ref at43), .val (.ref at45), .val .null, .val (.ref bx), .val (.int (own_bi (bb = p0))), .val (.int (own_bi (p0 = bb))), .unset] [(.int (1 : Int32)), (.int (own_bi (bb = p0)))]))) (fun _ zz => XS.goto Xt49.here hx rfl (pc0 := 77) (pc' := 81) rfl (hb hby at_77) (by decide) (by decide) zz) ?_
      exact Jt1 1 (own_bi_t q).symm
    · refine Gl.st (U' := (Tt49.setTop (mkF m 80 #[.val (.int p0), .val (.int p1), .val (.int p2), .val (.int bb), .val (.ref at41), .val (.ref at43), .val (.ref at45), .val .null, .val (.ref bx), .val (.int (own_bi (bb = p0))), .val (.int (own_bi (p0 = bb))), .unset] [(.int (own_bi (bb = p0)))]))) (fun _ zz => XS.icmpYes Xt49.here hx rfl (pc0 := 73) (pc' := 80) rfl (hb hby at_73) rfl (feq q).2 (by decide) (by decide) zz) ?_
      refine Gl.st (U' := (Tt49.setTop (mkF m 81 #[.val (.int p0), .val (.int p1), .val (.int p2), .val (.int bb), .val (.ref at41), .val (.ref at43), .val (.ref at45), .val .null, .val (.ref bx), .val (.int (own_bi (bb = p0))), .val (.int (own_bi (p0 = bb))), .unset] [(.int (0 : Int32)), (.int (own_bi (bb = p0)))]))) (fun _ zz => XS.iconst Xt49.here hx rfl (hb hby at_80) zz) ?_
      exact Jt1 0 (own_bi_f q).symm
  intro t1 ht1
  show Gl p e below _ (Tt49.setTop (mkF m 81 #[.val (.int p0), .val (.int p1), .val (.int p2), .val (.int bb), .val (.ref at41), .val (.ref at43), .val (.ref at45), .val .null, .val (.ref bx), .val (.int (own_bi (bb = p0))), .val (.int (own_bi (p0 = bb))), .unset] [(.int t1), (.int (own_bi (bb = p0)))]))
  have hsym : own_bi (bb = p0) = own_bi (p0 = bb) := own_bi_eq.mpr ⟨Eq.symm, Eq.symm⟩
  refine Gl.st (U' := (Tt49.setTop (mkF m 84 #[.val (.int p0), .val (.int p1), .val (.int p2), .val (.int bb), .val (.ref at41), .val (.ref at43), .val (.ref at45), .val .null, .val (.ref bx), .val (.int (own_bi (bb = p0))), .val (.int (own_bi (p0 = bb))), .unset] []))) (fun _ zz => XS.icmpNo Xt49.here hx rfl (hb hby at_81) rfl (teq (hsym.trans ht1.symm)).2 zz) ?_
  refine Gl.st (U' := (Tt49.setTop (mkF m 85 #[.val (.int p0), .val (.int p1), .val (.int p2), .val (.int bb), .val (.ref at41), .val (.ref at43), .val (.ref at45), .val .null, .val (.ref bx), .val (.int (own_bi (bb = p0))), .val (.int (own_bi (p0 = bb))), .unset] [(.int (1 : Int32))]))) (fun _ zz => XS.iconst Xt49.here hx rfl (hb hby at_84) zz) ?_
  refine Gl.st (U' := (Tt49.setTop (mkF m 89 #[.val (.int p0), .val (.int p1), .val (.int p2), .val (.int bb), .val (.ref at41), .val (.ref at43), .val (.ref at45), .val .null, .val (.ref bx), .val (.int (own_bi (bb = p0))), .val (.int (own_bi (p0 = bb))), .unset] [(.int (1 : Int32))]))) (fun _ zz => XS.goto Xt49.here hx rfl (pc0 := 85) (pc' := 89) rfl (hb hby at_85) (by decide) (by decide) zz) ?_
  refine Gl.st (U' := (Tt49.setTop (mkF m 91 #[.val (.int p0), .val (.int p1), .val (.int p2), .val (.int bb), .val (.ref at41), .val (.ref at43), .val (.ref at45), .val .null, .val (.ref bx), .val (.int (own_bi (bb = p0))), .val (.int (own_bi (p0 = bb))), .val (.int (1 : Int32))] []))) (fun _ zz => XS.istore Xt49.here hx rfl (hb hby at_89) rfl (l' := #[.val (.int p0), .val (.int p1), .val (.int p2), .val (.int bb), .val (.ref at41), .val (.ref at43), .val (.ref at45), .val .null, .val (.ref bx), .val (.int (own_bi (bb = p0))), .val (.int (own_bi (p0 = bb))), .val (.int (1 : Int32))]) rfl zz) ?_
  refine Gl.st (U' := (Tt49.setTop (mkF m 93 #[.val (.int p0), .val (.int p1), .val (.int p2), .val (.int bb), .val (.ref at41), .val (.ref at43), .val (.ref at45), .val .null, .val (.ref bx), .val (.int (own_bi (bb = p0))), .val (.int (own_bi (p0 = bb))), .val (.int (1 : Int32))] [(.int (1 : Int32))]))) (fun _ zz => XS.iload Xt49.here hx rfl (hb hby at_91) rfl zz) ?_
  refine Gl.st (U' := (Tt49.setTop (mkF m 96 #[.val (.int p0), .val (.int p1), .val (.int p2), .val (.int bb), .val (.ref at41), .val (.ref at43), .val (.ref at45), .val .null, .val (.ref bx), .val (.int (own_bi (bb = p0))), .val (.int (own_bi (p0 = bb))), .val (.int (1 : Int32))] []))) (fun _ zz => XS.ifNo Xt49.here hx rfl (hb hby at_93) rfl ((if0 _ _).trans (feq (by decide)).1) zz) ?_
  refine Gl.st (U' := (Tt49.setTop (mkF m 98 #[.val (.int p0), .val (.int p1), .val (.int p2), .val (.int bb), .val (.ref at41), .val (.ref at43), .val (.ref at45), .val .null, .val (.ref bx), .val (.int (own_bi (bb = p0))), .val (.int (own_bi (p0 = bb))), .val (.int (1 : Int32))] [(.int (own_bi (p0 = bb)))]))) (fun _ zz => XS.iload Xt49.here hx rfl (hb hby at_96) rfl zz) ?_
  refine Gl.st (U' := (Tt49.setTop (mkF m 100 #[.val (.int p0), .val (.int p1), .val (.int p2), .val (.int bb), .val (.ref at41), .val (.ref at43), .val (.ref at45), .val .null, .val (.ref bx), .val (.int (own_bi (bb = p0))), .val (.int (own_bi (p0 = bb))), .val (.int (1 : Int32))] [(.int (own_bi (bb = p0))), (.int (own_bi (p0 = bb)))]))) (fun _ zz => XS.iload Xt49.here hx rfl (hb hby at_98) rfl zz) ?_
  refine Gl.st (U' := (Tt49.setTop (mkF m 103 #[.val (.int p0), .val (.int p1), .val (.int p2), .val (.int bb), .val (.ref at41), .val (.ref at43), .val (.ref at45), .val .null, .val (.ref bx), .val (.int (own_bi (bb = p0))), .val (.int (own_bi (p0 = bb))), .val (.int (1 : Int32))] []))) (fun _ zz => XS.icmpNo Xt49.here hx rfl (hb hby at_100) rfl (teq hsym.symm).2 zz) ?_
  refine Gl.st (U' := (Tt49.setTop (mkF m 104 #[.val (.int p0), .val (.int p1), .val (.int p2), .val (.int bb), .val (.ref at41), .val (.ref at43), .val (.ref at45), .val .null, .val (.ref bx), .val (.int (own_bi (bb = p0))), .val (.int (own_bi (p0 = bb))), .val (.int (1 : Int32))] [(.int (1 : Int32))]))) (fun _ zz => XS.iconst Xt49.here hx rfl (hb hby at_103) zz) ?_
  refine Gl.st (U' := (Tt49.setTop (mkF m 108 #[.val (.int p0), .val (.int p1), .val (.int p2), .val (.int bb), .val (.ref at41), .val (.ref at43), .val (.ref at45), .val .null, .val (.ref bx), .val (.int (own_bi (bb = p0))), .val (.int (own_bi (p0 = bb))), .val (.int (1 : Int32))] [(.int (1 : Int32))]))) (fun _ zz => XS.goto Xt49.here hx rfl (pc0 := 104) (pc' := 108) rfl (hb hby at_104) (by decide) (by decide) zz) ?_
  refine Gl.st (U' := (Tt49.setTop (mkF m 110 #[.val (.int p0), .val (.int p1), .val (.int p2), .val (.int bb), .val (.ref at41), .val (.ref at43), .val (.ref at45), .val .null, .val (.ref bx), .val (.int (own_bi (bb = p0))), .val (.int (own_bi (p0 = bb))), .val (.int (1 : Int32))] []))) (fun _ zz => XS.istore Xt49.here hx rfl (hb hby at_108) rfl (l' := #[.val (.int p0), .val (.int p1), .val (.int p2), .val (.int bb), .val (.ref at41), .val (.ref at43), .val (.ref at45), .val .null, .val (.ref bx), .val (.int (own_bi (bb = p0))), .val (.int (own_bi (p0 = bb))), .val (.int (1 : Int32))]) rfl zz) ?_
  refine Gl.st (U' := (Tt49.setTop (mkF m 112 #[.val (.int p0), .val (.int p1), .val (.int p2), .val (.int bb), .val (.ref at41), .val (.ref at43), .val (.ref at45), .val .null, .val (.ref bx), .val (.int (own_bi (bb = p0))), .val (.int (own_bi (p0 = bb))), .val (.int (1 : Int32))] [(.int (1 : Int32))]))) (fun _ zz => XS.iload Xt49.here hx rfl (hb hby at_110) rfl zz) ?_
  refine Gl.st (U' := (Tt49.setTop (mkF m 115 #[.val (.int p0), .val (.int p1), .val (.int p2), .val (.int bb), .val (.ref at41), .val (.ref at43), .val (.ref at45), .val .null, .val (.ref bx), .val (.int (own_bi (bb = p0))), .val (.int (own_bi (p0 = bb))), .val (.int (1 : Int32))] []))) (fun _ zz => XS.ifNo Xt49.here hx rfl (hb hby at_112) rfl ((if0 _ _).trans (feq (by decide)).1) zz) ?_
  refine Gl.st (U' := (Tt49.setTop (mkF m 117 #[.val (.int p0), .val (.int p1), .val (.int p2), .val (.int bb), .val (.ref at41), .val (.ref at43), .val (.ref at45), .val .null, .val (.ref bx), .val (.int (own_bi (bb = p0))), .val (.int (own_bi (p0 = bb))), .val (.int (1 : Int32))] [(.ref at41)]))) (fun _ zz => XS.aload Xt49.here hx rfl (hb hby at_115) rfl rfl zz) ?_
  refine Gl.st (U' := (Tt49.setTop (mkF m 119 #[.val (.int p0), .val (.int p1), .val (.int p2), .val (.int bb), .val (.ref at41), .val (.ref at43), .val (.ref at45), .val .null, .val (.ref bx), .val (.int (own_bi (bb = p0))), .val (.int (own_bi (p0 = bb))), .val (.int (1 : Int32))] [(.ref at41), (.ref at41)]))) (fun _ zz => XS.aload Xt49.here hx rfl (hb hby at_117) rfl rfl zz) ?_
  refine gCallV Xt49 hx hZ (y := (⟨"com/example/ironbound_models/ironboundmodels/interpreter/CharValue", "equals", "(Ljava/lang/Object;)Z"⟩ : MethodName)) (z := (⟨"com/example/ironbound_models/ironboundmodels/interpreter/CharValue", "equals", "(Ljava/lang/Object;)Z"⟩ : MethodName)) hown (hw _ (List.mem_of_getElem? (i := 23) rfl)) (hw _ (List.mem_of_getElem? (i := 24) rfl)) (hw _ (List.mem_of_getElem? (i := 26) rfl)) (own_nf (args := #[]) (mvT hZ (hw _ (List.mem_of_getElem? (i := 26) rfl))) rfl) (hw _ (List.mem_of_getElem? (i := 25) rfl)) (hw _ (List.mem_of_getElem? (i := 2) rfl)) (hw _ (List.mem_of_getElem? (i := 27) rfl)) (by decide) (own_eq l Z a0 hw Tt47.heap at41 at41 p0 p0 CC0 CC0) et49 CC0.1 (by decide) (W := 0) (by decide) (by decide) (by decide) (g := (mkF m 119 #[.val (.int p0), .val (.int p1), .val (.int p2), .val (.int bb), .val (.ref at41), .val (.ref at43), .val (.ref at45), .val .null, .val (.ref bx), .val (.int (own_bi (bb = p0))), .val (.int (own_bi (p0 = bb))), .val (.int (1 : Int32))] [(.ref at41), (.ref at41)])) rfl (by rw [hml]; rfl) (argsL := [(.ref at41)]) (rest := []) (lenOf own_pdQ rfl) rfl rfl (by show 2 * 0 + _ ≤ _; exact Nat.le_of_eq rfl) (hb hby at_119) ?_
  rintro _ Tt50 Lt50 Xt50 ⟨rfl, rfl, et50⟩
  show Gl p e below _ (Tt50.setTop (mkF m 122 #[.val (.int p0), .val (.int p1), .val (.int p2), .val (.int bb), .val (.ref at41), .val (.ref at43), .val (.ref at45), .val .null, .val (.ref bx), .val (.int (own_bi (bb = p0))), .val (.int (own_bi (p0 = bb))), .val (.int (1 : Int32))] [(.int (own_bi (p0 = p0)))]))
  refine Gl.st (U' := (Tt50.setTop (mkF m 125 #[.val (.int p0), .val (.int p1), .val (.int p2), .val (.int bb), .val (.ref at41), .val (.ref at43), .val (.ref at45), .val .null, .val (.ref bx), .val (.int (own_bi (bb = p0))), .val (.int (own_bi (p0 = bb))), .val (.int (1 : Int32))] []))) (fun _ zz => XS.ifNo Xt50.here hx rfl (hb hby at_122) rfl ((if0 _ _).trans (feq (by rw [own_bi_t rfl]; decide)).1) zz) ?_
  refine Gl.st (U' := (Tt50.setTop (mkF m 126 #[.val (.int p0), .val (.int p1), .val (.int p2), .val (.int bb), .val (.ref at41), .val (.ref at43), .val (.ref at45), .val .null, .val (.ref bx), .val (.int (own_bi (bb = p0))), .val (.int (own_bi (p0 = bb))), .val (.int (1 : Int32))] [(.int (1 : Int32))]))) (fun _ zz => XS.iconst Xt50.here hx rfl (hb hby at_125) zz) ?_
  refine Gl.st (U' := (Tt50.setTop (mkF m 130 #[.val (.int p0), .val (.int p1), .val (.int p2), .val (.int bb), .val (.ref at41), .val (.ref at43), .val (.ref at45), .val .null, .val (.ref bx), .val (.int (own_bi (bb = p0))), .val (.int (own_bi (p0 = bb))), .val (.int (1 : Int32))] [(.int (1 : Int32))]))) (fun _ zz => XS.goto Xt50.here hx rfl (pc0 := 126) (pc' := 130) rfl (hb hby at_126) (by decide) (by decide) zz) ?_
  refine Gl.st (U' := (Tt50.setTop (mkF m 132 #[.val (.int p0), .val (.int p1), .val (.int p2), .val (.int bb), .val (.ref at41), .val (.ref at43), .val (.ref at45), .val .null, .val (.ref bx), .val (.int (own_bi (bb = p0))), .val (.int (own_bi (p0 = bb))), .val (.int (1 : Int32))] []))) (fun _ zz => XS.istore Xt50.here hx rfl (hb hby at_130) rfl (l' := #[.val (.int p0), .val (.int p1), .val (.int p2), .val (.int bb), .val (.ref at41), .val (.ref at43), .val (.ref at45), .val .null, .val (.ref bx), .val (.int (own_bi (bb = p0))), .val (.int (own_bi (p0 = bb))), .val (.int (1 : Int32))]) rfl zz) ?_
  refine Gl.st (U' := (Tt50.setTop (mkF m 134 #[.val (.int p0), .val (.int p1), .val (.int p2), .val (.int bb), .val (.ref at41), .val (.ref at43), .val (.ref at45), .val .null, .val (.ref bx), .val (.int (own_bi (bb = p0))), .val (.int (own_bi (p0 = bb))), .val (.int (1 : Int32))] [(.int (1 : Int32))]))) (fun _ zz => XS.iload Xt50.here hx rfl (hb hby at_132) rfl zz) ?_
  refine Gl.st (U' := (Tt50.setTop (mkF m 137 #[.val (.int p0), .val (.int p1), .val (.int p2), .val (.int bb), .val (.ref at41), .val (.ref at43), .val (.ref at45), .val .null, .val (.ref bx), .val (.int (own_bi (bb = p0))), .val (.int (own_bi (p0 = bb))), .val (.int (1 : Int32))] []))) (fun _ zz => XS.ifNo Xt50.here hx rfl (hb hby at_134) rfl ((if0 _ _).trans (feq (by decide)).1) zz) ?_
  refine Gl.st (U' := (Tt50.setTop (mkF m 139 #[.val (.int p0), .val (.int p1), .val (.int p2), .val (.int bb), .val (.ref at41), .val (.ref at43), .val (.ref at45), .val .null, .val (.ref bx), .val (.int (own_bi (bb = p0))), .val (.int (own_bi (p0 = bb))), .val (.int (1 : Int32))] [(.ref at41)]))) (fun _ zz => XS.aload Xt50.here hx rfl (hb hby at_137) rfl rfl zz) ?_
  refine Gl.st (U' := (Tt50.setTop (mkF m 141 #[.val (.int p0), .val (.int p1), .val (.int p2), .val (.int bb), .val (.ref at41), .val (.ref at43), .val (.ref at45), .val .null, .val (.ref bx), .val (.int (own_bi (bb = p0))), .val (.int (own_bi (p0 = bb))), .val (.int (1 : Int32))] [(.ref at45), (.ref at41)]))) (fun _ zz => XS.aload Xt50.here hx rfl (hb hby at_139) rfl rfl zz) ?_
  refine gCallV Xt50 hx hZ (y := (⟨"com/example/ironbound_models/ironboundmodels/interpreter/CharValue", "equals", "(Ljava/lang/Object;)Z"⟩ : MethodName)) (z := (⟨"com/example/ironbound_models/ironboundmodels/interpreter/CharValue", "equals", "(Ljava/lang/Object;)Z"⟩ : MethodName)) hown (hw _ (List.mem_of_getElem? (i := 23) rfl)) (hw _ (List.mem_of_getElem? (i := 24) rfl)) (hw _ (List.mem_of_getElem? (i := 26) rfl)) (own_nf (args := #[]) (mvT hZ (hw _ (List.mem_of_getElem? (i := 26) rfl))) rfl) (hw _ (List.mem_of_getElem? (i := 25) rfl)) (hw _ (List.mem_of_getElem? (i := 2) rfl)) (hw _ (List.mem_of_getElem? (i := 27) rfl)) (by decide) (own_eq l Z a0 hw Tt47.heap at41 at45 p0 p0 CC0 CC2) et50 CC0.1 (by decide) (W := 0) (by decide) (by decide) (by decide) (g := (mkF m 141 #[.val (.int p0), .val (.int p1), .val (.int p2), .val (.int bb), .val (.ref at41), .val (.ref at43), .val (.ref at45), .val .null, .val (.ref bx), .val (.int (own_bi (bb = p0))), .val (.int (own_bi (p0 = bb))), .val (.int (1 : Int32))] [(.ref at45), (.ref at41)])) rfl (by rw [hml]; rfl) (argsL := [(.ref at45)]) (rest := []) (lenOf own_pdQ rfl) rfl rfl (by show 2 * 0 + _ ≤ _; exact Nat.le_of_eq rfl) (hb hby at_141) ?_
  rintro _ Tt51 Lt51 Xt51 ⟨rfl, rfl, et51⟩
  show Gl p e below _ (Tt51.setTop (mkF m 144 #[.val (.int p0), .val (.int p1), .val (.int p2), .val (.int bb), .val (.ref at41), .val (.ref at43), .val (.ref at45), .val .null, .val (.ref bx), .val (.int (own_bi (bb = p0))), .val (.int (own_bi (p0 = bb))), .val (.int (1 : Int32))] [(.int (own_bi (p0 = p0)))]))
  refine Gl.st (U' := (Tt51.setTop (mkF m 147 #[.val (.int p0), .val (.int p1), .val (.int p2), .val (.int bb), .val (.ref at41), .val (.ref at43), .val (.ref at45), .val .null, .val (.ref bx), .val (.int (own_bi (bb = p0))), .val (.int (own_bi (p0 = bb))), .val (.int (1 : Int32))] []))) (fun _ zz => XS.ifNo Xt51.here hx rfl (hb hby at_144) rfl ((if0 _ _).trans (feq (by rw [own_bi_t rfl]; decide)).1) zz) ?_
  refine Gl.st (U' := (Tt51.setTop (mkF m 148 #[.val (.int p0), .val (.int p1), .val (.int p2), .val (.int bb), .val (.ref at41), .val (.ref at43), .val (.ref at45), .val .null, .val (.ref bx), .val (.int (own_bi (bb = p0))), .val (.int (own_bi (p0 = bb))), .val (.int (1 : Int32))] [(.int (1 : Int32))]))) (fun _ zz => XS.iconst Xt51.here hx rfl (hb hby at_147) zz) ?_
  refine Gl.st (U' := (Tt51.setTop (mkF m 152 #[.val (.int p0), .val (.int p1), .val (.int p2), .val (.int bb), .val (.ref at41), .val (.ref at43), .val (.ref at45), .val .null, .val (.ref bx), .val (.int (own_bi (bb = p0))), .val (.int (own_bi (p0 = bb))), .val (.int (1 : Int32))] [(.int (1 : Int32))]))) (fun _ zz => XS.goto Xt51.here hx rfl (pc0 := 148) (pc' := 152) rfl (hb hby at_148) (by decide) (by decide) zz) ?_
  refine Gl.st (U' := (Tt51.setTop (mkF m 154 #[.val (.int p0), .val (.int p1), .val (.int p2), .val (.int bb), .val (.ref at41), .val (.ref at43), .val (.ref at45), .val .null, .val (.ref bx), .val (.int (own_bi (bb = p0))), .val (.int (own_bi (p0 = bb))), .val (.int (1 : Int32))] []))) (fun _ zz => XS.istore Xt51.here hx rfl (hb hby at_152) rfl (l' := #[.val (.int p0), .val (.int p1), .val (.int p2), .val (.int bb), .val (.ref at41), .val (.ref at43), .val (.ref at45), .val .null, .val (.ref bx), .val (.int (own_bi (bb = p0))), .val (.int (own_bi (p0 = bb))), .val (.int (1 : Int32))]) rfl zz) ?_
  refine Gl.st (U' := (Tt51.setTop (mkF m 156 #[.val (.int p0), .val (.int p1), .val (.int p2), .val (.int bb), .val (.ref at41), .val (.ref at43), .val (.ref at45), .val .null, .val (.ref bx), .val (.int (own_bi (bb = p0))), .val (.int (own_bi (p0 = bb))), .val (.int (1 : Int32))] [(.int (1 : Int32))]))) (fun _ zz => XS.iload Xt51.here hx rfl (hb hby at_154) rfl zz) ?_
  refine Gl.st (U' := (Tt51.setTop (mkF m 159 #[.val (.int p0), .val (.int p1), .val (.int p2), .val (.int bb), .val (.ref at41), .val (.ref at43), .val (.ref at45), .val .null, .val (.ref bx), .val (.int (own_bi (bb = p0))), .val (.int (own_bi (p0 = bb))), .val (.int (1 : Int32))] []))) (fun _ zz => XS.ifNo Xt51.here hx rfl (hb hby at_156) rfl ((if0 _ _).trans (feq (by decide)).1) zz) ?_
  refine Gl.st (U' := (Tt51.setTop (mkF m 161 #[.val (.int p0), .val (.int p1), .val (.int p2), .val (.int bb), .val (.ref at41), .val (.ref at43), .val (.ref at45), .val .null, .val (.ref bx), .val (.int (own_bi (bb = p0))), .val (.int (own_bi (p0 = bb))), .val (.int (1 : Int32))] [(.ref at41)]))) (fun _ zz => XS.aload Xt51.here hx rfl (hb hby at_159) rfl rfl zz) ?_
  refine Gl.st (U' := (Tt51.setTop (mkF m 163 #[.val (.int p0), .val (.int p1), .val (.int p2), .val (.int bb), .val (.ref at41), .val (.ref at43), .val (.ref at45), .val .null, .val (.ref bx), .val (.int (own_bi (bb = p0))), .val (.int (own_bi (p0 = bb))), .val (.int (1 : Int32))] [.null, (.ref at41)]))) (fun _ zz => XS.aload Xt51.here hx rfl (hb hby at_161) rfl rfl zz) ?_
  refine gCallV Xt51 hx hZ (y := (⟨"com/example/ironbound_models/ironboundmodels/interpreter/CharValue", "equals", "(Ljava/lang/Object;)Z"⟩ : MethodName)) (z := (⟨"com/example/ironbound_models/ironboundmodels/interpreter/CharValue", "equals", "(Ljava/lang/Object;)Z"⟩ : MethodName)) hown (hw _ (List.mem_of_getElem? (i := 23) rfl)) (hw _ (List.mem_of_getElem? (i := 24) rfl)) (hw _ (List.mem_of_getElem? (i := 26) rfl)) (own_nf (args := #[]) (mvT hZ (hw _ (List.mem_of_getElem? (i := 26) rfl))) rfl) (hw _ (List.mem_of_getElem? (i := 25) rfl)) (hw _ (List.mem_of_getElem? (i := 2) rfl)) (hw _ (List.mem_of_getElem? (i := 27) rfl)) (by decide) (own_eqn l Z a0 hw Tt47.heap at41) et51 CC0.1 (by decide) (W := 0) (by decide) (by decide) (by decide) (g := (mkF m 163 #[.val (.int p0), .val (.int p1), .val (.int p2), .val (.int bb), .val (.ref at41), .val (.ref at43), .val (.ref at45), .val .null, .val (.ref bx), .val (.int (own_bi (bb = p0))), .val (.int (own_bi (p0 = bb))), .val (.int (1 : Int32))] [.null, (.ref at41)])) rfl (by rw [hml]; rfl) (argsL := [.null]) (rest := []) (lenOf own_pdQ rfl) rfl rfl (by show 2 * 0 + _ ≤ _; exact Nat.le_of_eq rfl) (hb hby at_163) ?_
  rintro _ Tt52 Lt52 Xt52 ⟨rfl, rfl, et52⟩
  show Gl p e below _ (Tt52.setTop (mkF m 166 #[.val (.int p0), .val (.int p1), .val (.int p2), .val (.int bb), .val (.ref at41), .val (.ref at43), .val (.ref at45), .val .null, .val (.ref bx), .val (.int (own_bi (bb = p0))), .val (.int (own_bi (p0 = bb))), .val (.int (1 : Int32))] [(.int (0 : Int32))]))
  refine Gl.st (U' := (Tt52.setTop (mkF m 169 #[.val (.int p0), .val (.int p1), .val (.int p2), .val (.int bb), .val (.ref at41), .val (.ref at43), .val (.ref at45), .val .null, .val (.ref bx), .val (.int (own_bi (bb = p0))), .val (.int (own_bi (p0 = bb))), .val (.int (1 : Int32))] []))) (fun _ zz => XS.ifNo Xt52.here hx rfl (hb hby at_166) rfl ((if0 _ _).trans (teq rfl).2) zz) ?_
  refine Gl.st (U' := (Tt52.setTop (mkF m 170 #[.val (.int p0), .val (.int p1), .val (.int p2), .val (.int bb), .val (.ref at41), .val (.ref at43), .val (.ref at45), .val .null, .val (.ref bx), .val (.int (own_bi (bb = p0))), .val (.int (own_bi (p0 = bb))), .val (.int (1 : Int32))] [(.int (1 : Int32))]))) (fun _ zz => XS.iconst Xt52.here hx rfl (hb hby at_169) zz) ?_
  refine Gl.st (U' := (Tt52.setTop (mkF m 174 #[.val (.int p0), .val (.int p1), .val (.int p2), .val (.int bb), .val (.ref at41), .val (.ref at43), .val (.ref at45), .val .null, .val (.ref bx), .val (.int (own_bi (bb = p0))), .val (.int (own_bi (p0 = bb))), .val (.int (1 : Int32))] [(.int (1 : Int32))]))) (fun _ zz => XS.goto Xt52.here hx rfl (pc0 := 170) (pc' := 174) rfl (hb hby at_170) (by decide) (by decide) zz) ?_
  refine Gl.st (U' := (Tt52.setTop (mkF m 176 #[.val (.int p0), .val (.int p1), .val (.int p2), .val (.int bb), .val (.ref at41), .val (.ref at43), .val (.ref at45), .val .null, .val (.ref bx), .val (.int (own_bi (bb = p0))), .val (.int (own_bi (p0 = bb))), .val (.int (1 : Int32))] []))) (fun _ zz => XS.istore Xt52.here hx rfl (hb hby at_174) rfl (l' := #[.val (.int p0), .val (.int p1), .val (.int p2), .val (.int bb), .val (.ref at41), .val (.ref at43), .val (.ref at45), .val .null, .val (.ref bx), .val (.int (own_bi (bb = p0))), .val (.int (own_bi (p0 = bb))), .val (.int (1 : Int32))]) rfl zz) ?_
  refine Gl.st (U' := (Tt52.setTop (mkF m 178 #[.val (.int p0), .val (.int p1), .val (.int p2), .val (.int bb), .val (.ref at41), .val (.ref at43), .val (.ref at45), .val .null, .val (.ref bx), .val (.int (own_bi (bb = p0))), .val (.int (own_bi (p0 = bb))), .val (.int (1 : Int32))] [(.int (1 : Int32))]))) (fun _ zz => XS.iload Xt52.here hx rfl (hb hby at_176) rfl zz) ?_
  refine Gl.st (U' := (Tt52.setTop (mkF m 181 #[.val (.int p0), .val (.int p1), .val (.int p2), .val (.int bb), .val (.ref at41), .val (.ref at43), .val (.ref at45), .val .null, .val (.ref bx), .val (.int (own_bi (bb = p0))), .val (.int (own_bi (p0 = bb))), .val (.int (1 : Int32))] []))) (fun _ zz => XS.ifNo Xt52.here hx rfl (hb hby at_178) rfl ((if0 _ _).trans (feq (by decide)).1) zz) ?_
  refine Gl.st (U' := (Tt52.setTop (mkF m 183 #[.val (.int p0), .val (.int p1), .val (.int p2), .val (.int bb), .val (.ref at41), .val (.ref at43), .val (.ref at45), .val .null, .val (.ref bx), .val (.int (own_bi (bb = p0))), .val (.int (own_bi (p0 = bb))), .val (.int (1 : Int32))] [(.ref at41)]))) (fun _ zz => XS.aload Xt52.here hx rfl (hb hby at_181) rfl rfl zz) ?_
  refine Gl.st (U' := (Tt52.setTop (mkF m 185 #[.val (.int p0), .val (.int p1), .val (.int p2), .val (.int bb), .val (.ref at41), .val (.ref at43), .val (.ref at45), .val .null, .val (.ref bx), .val (.int (own_bi (bb = p0))), .val (.int (own_bi (p0 = bb))), .val (.int (1 : Int32))] [(.ref bx), (.ref at41)]))) (fun _ zz => XS.aload Xt52.here hx rfl (hb hby at_183) rfl rfl zz) ?_
  refine gCallV Xt52 hx hZ (y := (⟨"com/example/ironbound_models/ironboundmodels/interpreter/CharValue", "equals", "(Ljava/lang/Object;)Z"⟩ : MethodName)) (z := (⟨"com/example/ironbound_models/ironboundmodels/interpreter/CharValue", "equals", "(Ljava/lang/Object;)Z"⟩ : MethodName)) hown (hw _ (List.mem_of_getElem? (i := 23) rfl)) (hw _ (List.mem_of_getElem? (i := 24) rfl)) (hw _ (List.mem_of_getElem? (i := 26) rfl)) (own_nf (args := #[]) (mvT hZ (hw _ (List.mem_of_getElem? (i := 26) rfl))) rfl) (hw _ (List.mem_of_getElem? (i := 25) rfl)) (hw _ (List.mem_of_getElem? (i := 2) rfl)) (hw _ (List.mem_of_getElem? (i := 27) rfl)) (by decide) (own_eqi l Z a0 hw Tt47.heap at41 bx EX) et52 CC0.1 (by decide) (W := 0) (by decide) (by decide) (by decide) (g := (mkF m 185 #[.val (.int p0), .val (.int p1), .val (.int p2), .val (.int bb), .val (.ref at41), .val (.ref at43), .val (.ref at45), .val .null, .val (.ref bx), .val (.int (own_bi (bb = p0))), .val (.int (own_bi (p0 = bb))), .val (.int (1 : Int32))] [(.ref bx), (.ref at41)])) rfl (by rw [hml]; rfl) (argsL := [(.ref bx)]) (rest := []) (lenOf own_pdQ rfl) rfl rfl (by show 2 * 0 + _ ≤ _; exact Nat.le_of_eq rfl) (hb hby at_185) ?_
  rintro _ Tt53 Lt53 Xt53 ⟨rfl, rfl, et53⟩
  show Gl p e below _ (Tt53.setTop (mkF m 188 #[.val (.int p0), .val (.int p1), .val (.int p2), .val (.int bb), .val (.ref at41), .val (.ref at43), .val (.ref at45), .val .null, .val (.ref bx), .val (.int (own_bi (bb = p0))), .val (.int (own_bi (p0 = bb))), .val (.int (1 : Int32))] [(.int (0 : Int32))]))
  refine Gl.st (U' := (Tt53.setTop (mkF m 191 #[.val (.int p0), .val (.int p1), .val (.int p2), .val (.int bb), .val (.ref at41), .val (.ref at43), .val (.ref at45), .val .null, .val (.ref bx), .val (.int (own_bi (bb = p0))), .val (.int (own_bi (p0 = bb))), .val (.int (1 : Int32))] []))) (fun _ zz => XS.ifNo Xt53.here hx rfl (hb hby at_188) rfl ((if0 _ _).trans (teq rfl).2) zz) ?_
  refine Gl.st (U' := (Tt53.setTop (mkF m 192 #[.val (.int p0), .val (.int p1), .val (.int p2), .val (.int bb), .val (.ref at41), .val (.ref at43), .val (.ref at45), .val .null, .val (.ref bx), .val (.int (own_bi (bb = p0))), .val (.int (own_bi (p0 = bb))), .val (.int (1 : Int32))] [(.int (1 : Int32))]))) (fun _ zz => XS.iconst Xt53.here hx rfl (hb hby at_191) zz) ?_
  refine Gl.st (U' := (Tt53.setTop (mkF m 196 #[.val (.int p0), .val (.int p1), .val (.int p2), .val (.int bb), .val (.ref at41), .val (.ref at43), .val (.ref at45), .val .null, .val (.ref bx), .val (.int (own_bi (bb = p0))), .val (.int (own_bi (p0 = bb))), .val (.int (1 : Int32))] [(.int (1 : Int32))]))) (fun _ zz => XS.goto Xt53.here hx rfl (pc0 := 192) (pc' := 196) rfl (hb hby at_192) (by decide) (by decide) zz) ?_
  refine Gl.st (U' := (Tt53.setTop (mkF m 198 #[.val (.int p0), .val (.int p1), .val (.int p2), .val (.int bb), .val (.ref at41), .val (.ref at43), .val (.ref at45), .val .null, .val (.ref bx), .val (.int (own_bi (bb = p0))), .val (.int (own_bi (p0 = bb))), .val (.int (1 : Int32))] []))) (fun _ zz => XS.istore Xt53.here hx rfl (hb hby at_196) rfl (l' := #[.val (.int p0), .val (.int p1), .val (.int p2), .val (.int bb), .val (.ref at41), .val (.ref at43), .val (.ref at45), .val .null, .val (.ref bx), .val (.int (own_bi (bb = p0))), .val (.int (own_bi (p0 = bb))), .val (.int (1 : Int32))]) rfl zz) ?_
  refine Gl.st (U' := (Tt53.setTop (mkF m 200 #[.val (.int p0), .val (.int p1), .val (.int p2), .val (.int bb), .val (.ref at41), .val (.ref at43), .val (.ref at45), .val .null, .val (.ref bx), .val (.int (own_bi (bb = p0))), .val (.int (own_bi (p0 = bb))), .val (.int (1 : Int32))] [(.int (1 : Int32))]))) (fun _ zz => XS.iload Xt53.here hx rfl (hb hby at_198) rfl zz) ?_
  refine Gl.st (U' := (Tt53.setTop (mkF m 203 #[.val (.int p0), .val (.int p1), .val (.int p2), .val (.int bb), .val (.ref at41), .val (.ref at43), .val (.ref at45), .val .null, .val (.ref bx), .val (.int (own_bi (bb = p0))), .val (.int (own_bi (p0 = bb))), .val (.int (1 : Int32))] []))) (fun _ zz => XS.ifNo Xt53.here hx rfl (hb hby at_200) rfl ((if0 _ _).trans (feq (by decide)).1) zz) ?_
  refine Gl.st (U' := (Tt53.setTop (mkF m 205 #[.val (.int p0), .val (.int p1), .val (.int p2), .val (.int bb), .val (.ref at41), .val (.ref at43), .val (.ref at45), .val .null, .val (.ref bx), .val (.int (own_bi (bb = p0))), .val (.int (own_bi (p0 = bb))), .val (.int (1 : Int32))] [(.ref at41)]))) (fun _ zz => XS.aload Xt53.here hx rfl (hb hby at_203) rfl rfl zz) ?_
  refine Gl.st (U' := (Tt53.setTop (mkF m 207 #[.val (.int p0), .val (.int p1), .val (.int p2), .val (.int bb), .val (.ref at41), .val (.ref at43), .val (.ref at45), .val .null, .val (.ref bx), .val (.int (own_bi (bb = p0))), .val (.int (own_bi (p0 = bb))), .val (.int (1 : Int32))] [(.ref at43), (.ref at41)]))) (fun _ zz => XS.aload Xt53.here hx rfl (hb hby at_205) rfl rfl zz) ?_
  refine gCallU Xt53 hx hZ (y := (⟨"com/example/ironbound_models/ironboundmodels/interpreter/CharValue", "compareTo", "(Lcom/example/ironbound_models/ironboundmodels/interpreter/Value;)I"⟩ : MethodName)) (z := (⟨"com/example/ironbound_models/ironboundmodels/interpreter/Value", "compareTo", "(Lcom/example/ironbound_models/ironboundmodels/interpreter/Value;)I"⟩ : MethodName)) (owner := "com/example/ironbound_models/ironboundmodels/interpreter/Value") hown (hw _ (List.mem_of_getElem? (i := 33) rfl)) (hw _ (List.mem_of_getElem? (i := 34) rfl)) (hw _ (List.mem_of_getElem? (i := 35) rfl)) (hw _ (List.mem_of_getElem? (i := 37) rfl)) (hw _ (List.mem_of_getElem? (i := 36) rfl)) (hw _ (List.mem_of_getElem? (i := 9) rfl)) (hw _ (List.mem_of_getElem? (i := 38) rfl)) (by decide) (own_vc l Z a0 hw Tt47.heap kk mr cK kK m1 m2 m3 (SK.ext OF.2) (EK.ext OF.2) (FK.ext OF.2) at41 at43 p0 bb CC0 CC1) et53 CC0.1 (by decide) (W := 0) (by decide) (by decide) (by decide) (g := (mkF m 207 #[.val (.int p0), .val (.int p1), .val (.int p2), .val (.int bb), .val (.ref at41), .val (.ref at43), .val (.ref at45), .val .null, .val (.ref bx), .val (.int (own_bi (bb = p0))), .val (.int (own_bi (p0 = bb))), .val (.int (1 : Int32))] [(.ref at43), (.ref at41)])) rfl (by rw [hml]; rfl) (argsL := [(.ref at43)]) (rest := []) (lenOf own_pdW rfl) rfl rfl (by show 2 * 0 + _ ≤ _; exact Nat.le_of_eq rfl) (hb hby at_207) ?_
  rintro _ Tt54 Lt54 Xt54 ⟨z, rfl, hz, rfl, et54⟩
  show Gl p e below _ (Tt54.setTop (mkF m 210 #[.val (.int p0), .val (.int p1), .val (.int p2), .val (.int bb), .val (.ref at41), .val (.ref at43), .val (.ref at45), .val .null, .val (.ref bx), .val (.int (own_bi (bb = p0))), .val (.int (own_bi (p0 = bb))), .val (.int (1 : Int32))] [(.int z)]))
  refine Gl.join (α := Int32) (P := fun t2 => t2 = own_bi (p0 = bb)) (f := fun t2 => (Tt54.setTop (mkF m 218 #[.val (.int p0), .val (.int p1), .val (.int p2), .val (.int bb), .val (.ref at41), .val (.ref at43), .val (.ref at45), .val .null, .val (.ref bx), .val (.int (own_bi (bb = p0))), .val (.int (own_bi (p0 = bb))), .val (.int (1 : Int32))] [(.int t2)]))) ?_ ?_
  · intro Jt2
    by_cases q : z = (0 : Int32)
    · refine Gl.st (U' := (Tt54.setTop (mkF m 213 #[.val (.int p0), .val (.int p1), .val (.int p2), .val (.int bb), .val (.ref at41), .val (.ref at43), .val (.ref at45), .val .null, .val (.ref bx), .val (.int (own_bi (bb = p0))), .val (.int (own_bi (p0 = bb))), .val (.int (1 : Int32))] []))) (fun _ zz => XS.ifNo Xt54.here hx rfl (hb hby at_210) rfl ((if0 _ _).trans (teq q).2) zz) ?_
      refine Gl.st (U' := (Tt54.setTop (mkF m 214 #[.val (.int p0), .val (.int p1), .val (.int p2), .val (.int bb), .val (.ref at41), .val (.ref at43), .val (.ref at45), .val .null, .val (.ref bx), .val (.int (own_bi (bb = p0))), .val (.int (own_bi (p0 = bb))), .val (.int (1 : Int32))] [(.int (1 : Int32))]))) (fun _ zz => XS.iconst Xt54.here hx rfl (hb hby at_213) zz) ?_
      refine Gl.st (U' := (Tt54.setTop (mkF m 218 #[.val (.int p0), .val (.int p1), .val (.int p2), .val (.int bb), .val (.ref at41), .val (.ref at43), .val (.ref at45), .val .null, .val (.ref bx), .val (.int (own_bi (bb = p0))), .val (.int (own_bi (p0 = bb))), .val (.int (1 : Int32))] [(.int (1 : Int32))]))) (fun _ zz => XS.goto Xt54.here hx rfl (pc0 := 214) (pc' := 218) rfl (hb hby at_214) (by decide) (by decide) zz) ?_
      exact Jt2 1 (own_bi_t (hz.mp q)).symm
    · refine Gl.st (U' := (Tt54.setTop (mkF m 217 #[.val (.int p0), .val (.int p1), .val (.int p2), .val (.int bb), .val (.ref at41), .val (.ref at43), .val (.ref at45), .val .null, .val (.ref bx), .val (.int (own_bi (bb = p0))), .val (.int (own_bi (p0 = bb))), .val (.int (1 : Int32))] []))) (fun _ zz => XS.ifYes Xt54.here hx rfl (pc0 := 210) (pc' := 217) rfl (hb hby at_210) rfl ((if0 _ _).trans (feq q).2) (by decide) (by decide) zz) ?_
      refine Gl.st (U' := (Tt54.setTop (mkF m 218 #[.val (.int p0), .val (.int p1), .val (.int p2), .val (.int bb), .val (.ref at41), .val (.ref at43), .val (.ref at45), .val .null, .val (.ref bx), .val (.int (own_bi (bb = p0))), .val (.int (own_bi (p0 = bb))), .val (.int (1 : Int32))] [(.int (0 : Int32))]))) (fun _ zz => XS.iconst Xt54.here hx rfl (hb hby at_217) zz) ?_
      exact Jt2 0 (own_bi_f (fun y => q (hz.mpr y))).symm
  intro t2 ht2
  show Gl p e below _ (Tt54.setTop (mkF m 218 #[.val (.int p0), .val (.int p1), .val (.int p2), .val (.int bb), .val (.ref at41), .val (.ref at43), .val (.ref at45), .val .null, .val (.ref bx), .val (.int (own_bi (bb = p0))), .val (.int (own_bi (p0 = bb))), .val (.int (1 : Int32))] [(.int t2)]))
  refine Gl.st (U' := (Tt54.setTop (mkF m 220 #[.val (.int p0), .val (.int p1), .val (.int p2), .val (.int bb), .val (.ref at41), .val (.ref at43), .val (.ref at45), .val .null, .val (.ref bx), .val (.int (own_bi (bb = p0))), .val (.int (own_bi (p0 = bb))), .val (.int (1 : Int32))] [(.int (own_bi (bb = p0))), (.int t2)]))) (fun _ zz => XS.iload Xt54.here hx rfl (hb hby at_218) rfl zz) ?_
  refine Gl.st (U' := (Tt54.setTop (mkF m 223 #[.val (.int p0), .val (.int p1), .val (.int p2), .val (.int bb), .val (.ref at41), .val (.ref at43), .val (.ref at45), .val .null, .val (.ref bx), .val (.int (own_bi (bb = p0))), .val (.int (own_bi (p0 = bb))), .val (.int (1 : Int32))] []))) (fun _ zz => XS.icmpNo Xt54.here hx rfl (hb hby at_220) rfl (teq (ht2.trans hsym.symm)).2 zz) ?_
  refine Gl.st (U' := (Tt54.setTop (mkF m 224 #[.val (.int p0), .val (.int p1), .val (.int p2), .val (.int bb), .val (.ref at41), .val (.ref at43), .val (.ref at45), .val .null, .val (.ref bx), .val (.int (own_bi (bb = p0))), .val (.int (own_bi (p0 = bb))), .val (.int (1 : Int32))] [(.int (1 : Int32))]))) (fun _ zz => XS.iconst Xt54.here hx rfl (hb hby at_223) zz) ?_
  refine Gl.st (U' := (Tt54.setTop (mkF m 228 #[.val (.int p0), .val (.int p1), .val (.int p2), .val (.int bb), .val (.ref at41), .val (.ref at43), .val (.ref at45), .val .null, .val (.ref bx), .val (.int (own_bi (bb = p0))), .val (.int (own_bi (p0 = bb))), .val (.int (1 : Int32))] [(.int (1 : Int32))]))) (fun _ zz => XS.goto Xt54.here hx rfl (pc0 := 224) (pc' := 228) rfl (hb hby at_224) (by decide) (by decide) zz) ?_
  refine Gl.st (U' := (Tt54.setTop (mkF m 230 #[.val (.int p0), .val (.int p1), .val (.int p2), .val (.int bb), .val (.ref at41), .val (.ref at43), .val (.ref at45), .val .null, .val (.ref bx), .val (.int (own_bi (bb = p0))), .val (.int (own_bi (p0 = bb))), .val (.int (1 : Int32))] []))) (fun _ zz => XS.istore Xt54.here hx rfl (hb hby at_228) rfl (l' := #[.val (.int p0), .val (.int p1), .val (.int p2), .val (.int bb), .val (.ref at41), .val (.ref at43), .val (.ref at45), .val .null, .val (.ref bx), .val (.int (own_bi (bb = p0))), .val (.int (own_bi (p0 = bb))), .val (.int (1 : Int32))]) rfl zz) ?_
  refine Gl.st (U' := (Tt54.setTop (mkF m 232 #[.val (.int p0), .val (.int p1), .val (.int p2), .val (.int bb), .val (.ref at41), .val (.ref at43), .val (.ref at45), .val .null, .val (.ref bx), .val (.int (own_bi (bb = p0))), .val (.int (own_bi (p0 = bb))), .val (.int (1 : Int32))] [(.int (1 : Int32))]))) (fun _ zz => XS.iload Xt54.here hx rfl (hb hby at_230) rfl zz) ?_
  exact Gl.retZ Xt54 hx hret hlk (hb hby at_232) (Or.inr rfl) ⟨rfl, by simpa using NF⟩ (by decide) (by decide)
set_option maxRecDepth 65536 in
set_option maxHeartbeats 40000000 in
theorem comes_1 {Post : Tables → Env → Array Value → State → Outcome → State → Prop} (hpost : ∀ tb e args s v u, (limb_1_1.after args s (.returned v) u = true ∧ limb_1_2.after args s (.returned v) u = true ∧ True) → FrameEnd s (.returned v) u (Jvm.fieldLocs frame_1_writes args s ++ Jvm.arrayLocs frame_1_arrays args s ++ Jvm.staticLocs frame_1_statics s) 16 128 → Post tb e args s (.returned v) u) :
    ArmFor flags0 classFile x code maxLocals ret World_1 tables_1 room_1 Calls_1 rest_1 Pre_1 Post := by
  intro l hfl _ _ p e ha hc hk s m args below hf hA hF happ hP
  obtain ⟨hcalls, hrest, hpre⟩ := hP
  obtain ⟨-, -, -, hnamed, -, -, -, hat⟩ := (Spec.applies_iff hf).mp happ
  obtain ⟨hg, hn⟩ := and_e (Cond.before_iff.mp (show (Jvm.Cond.and given_1 narrow_1).before args s = true from hpre))
  obtain ⟨hcount, hg⟩ := and_e hg
  obtain ⟨hg0, hg⟩ := and_e hg
  obtain ⟨hg1, hg⟩ := and_e hg
  have hg2 := hg
  obtain ⟨w0, w1, w2, rfl⟩ : ∃ w0 w1 w2 : Value, args = #[w0, w1, w2] := by
    have hs : args.size = 3 := by simpa [Cond.value, given_1] using hcount
    obtain ⟨L⟩ := args
    match L, hs with
    | [w0, w1, w2], _ => exact ⟨w0, w1, w2, rfl⟩
  have hw := fun d (hd : d ∈ tables_1) => atoms_spec (ws := Jvm.Cond.code x code maxLocals ret :: tables_1) hat d (List.mem_cons_of_mem _ hd)
  obtain ⟨hsets, hown0⟩ := atoms_of _ (rest_1_c_eq ▸ (show rest_1_c.before _ s = true from hrest))
  have hfit : Fit s := fun {y c} hc i hi => by
    obtain ⟨ha, rfl⟩ := Array.getElem?_eq_some_iff.mp hc
    have q := List.all_eq_true.mp ((Array.all_eq_true_iff_forall_mem.mp hF) _ (Array.getElem_mem ha)) i (List.mem_range.mpr hi)
    simpa [Array.getElem?_eq_getElem hi] using q
  obtain ⟨i0, ev0⟩ := is_v hg0
  obtain rfl : w0 = (.int i0) := Option.some.inj ev0
  obtain ⟨i1, ev1⟩ := is_v hg1
  obtain rfl : w1 = (.int i1) := Option.some.inj ev1
  obtain ⟨i2, ev2⟩ := is_v hg2
  obtain rfl : w2 = (.int i2) := Option.some.inj ev2
  obtain ⟨hn0, hn⟩ := and_e hn
  have hn1 := hn
  obtain ⟨vk, exk⟩ := exa_v hn0
  have EK := Exa.start exk hn0
  have SK := Sta.start exk (Or.inr ⟨(hw _ (List.mem_of_getElem? (i := 45) rfl)), (hw _ (List.mem_of_getElem? (i := 46) rfl))⟩)
  have FK := Fld.start ((fld_at exk).symm.trans (eqv_i (Term.int_eval _) hn1))
  have evh := eqv_i (Term.int_eval _) (Cond.before_iff.mp (hsets _ (List.mem_of_getElem? (i := 3) rfl)))
  have S1 := Sta.start evh (Or.inl (hsets _ (List.mem_of_getElem? (i := 1) rfl)))
  obtain ⟨ca, evc⟩ := arr_v (Cond.before_iff.mp (hsets _ (List.mem_of_getElem? (i := 4) rfl)))
  have S2 := Sta.start evc (Or.inr ⟨(hw _ (List.mem_of_getElem? (i := 21) rfl)), (hsets _ (List.mem_of_getElem? (i := 2) rfl))⟩)
  obtain ⟨cc, AC⟩ := Arr.start evc (Cond.before_iff.mp (hsets _ (List.mem_of_getElem? (i := 4) rfl)))
  obtain ⟨z1, z2⟩ := own_len evc AC (eqv_i (Term.int_eval _) (Cond.before_iff.mp (hsets _ (List.mem_of_getElem? (i := 6) rfl))))
  have BX := Bxs.start (val := fun j => .int (j - 128)) (fun _ => evc) AC z1 z2 (by decide) (Cond.before_iff.mp (hsets _ (List.mem_of_getElem? (i := 7) rfl))) (fun X j nn q => eqv_i (by simp [Term.eval, (back32 nn).1]) q)
  obtain ⟨cK, kK, mr, m1, m2, m3, -⟩ := hcalls.1
  obtain ⟨n, o, h1, h2, h3, _, L, rfl, ⟨rfl, N⟩, hq⟩ := own_law l s _ hw s.heap s.heap.size (Old.start s) vk mr cK kK m1 m2 m3 SK EK FK ca cc _ S1 S2 BX i0 i1 i2 p e ha hc hk s m _ below hf ((Spec.applies_iff_loose hf).mp happ).1 ⟨rfl, State.Warmed39.refl s, rfl⟩ trivial
  refine ⟨n, _, h1, h2, h3, hpost _ _ _ _ _ _ ⟨Cond.after_iff.mpr rfl, Cond.after_iff.mpr (eq_i res_at (Term.int_eval (1)) rfl), trivial⟩ ⟨hq.1, hq.2.1, (hq.2.2.sift fun y hy => Or.inr (N y hy)).mono (by decide) (by decide)⟩⟩
theorem main_1_1 : Claimed_1_1 := comes_1 fun _ _ _ _ _ _ h hF => ⟨h.1, hF⟩
theorem main_1_2 : Claimed_1_2 := comes_1 fun _ _ _ _ _ _ h hF => ⟨h.2.1, hF⟩
end Jvm.Pilot.@@N@@
namespace Jvm.Pilot.@@N@@
open Jvm Jvm.ClassFile Sem Op Lib Jvm.Free Jvm.Stand Jvm.Pilot.@@N@@.Jvm.D
/-! MADE BY PROGRAM (witnessworld.py) out of the Statement's table words and the real class files: 19 classes; the members and pool entries that the words name. The judged class is class 1, her method 1. -/
namespace start1
open Jvm.ClassFile
def u (s : String) : CpInfo := .utf8 (stringToUtf16 s)
/-- a pool by its gaps: so many unusable entries, then the entry; so many at the end -/
def gap : Nat → List CpInfo → List CpInfo
  | 0, r => r
  | n + 1, r => .unusable :: gap n r
def poolList (es : List (Nat × CpInfo)) (last : Nat) : List CpInfo := es.foldr (fun e r => gap e.1 (e.2 :: r)) (gap last [])
def pool (es : List (Nat × CpInfo)) (last : Nat) : Array CpInfo := ⟨poolList es last⟩
def fileOf (pool : Array CpInfo) (this : Nat) (attrs : Array Attribute := #[]) (ms : Array MethodInfo := #[]) (fl : Nat := 33) (sup : Nat := 0) (ifs : Array Nat := #[]) (fds : Array FieldInfo := #[]) : ClassFile where
  minorVersion := 0
  majorVersion := 65
  constantPool := pool
  accessFlags := fl
  thisClass := this
  superClass := sup
  interfaces := ifs
  fields := fds
  methods := ms
  attributes := attrs
def plain (name : String) (sup : Option ClassId) : Class where
  name := name
  kind := .ordinary
  loader := none
  accessFlags := 33
  super := sup
  interfaces := #[]
  cf := none
  fields := #[]
  methods := #[]
  instanceTypes := #[]
  staticTypes := #[]
  resolved := #[]
  callSites := []
  init := .initialized
  statics := none
  mirror := none

def pool0 : Array CpInfo := pool [(5, u "<init>"), (0, u "()V"), (1, .class_ 10), (1, u "java/lang/Object"), (0, u "getClass"), (0, u "()Ljava/lang/Class;")] 111

def k0c0 : Code := { maxStack := 0, maxLocals := 1, code := object_method_1_code, exceptionTable := #[], attributes := #[] }
def k0m0 : Method := { name := "<init>", desc := "()V", sig := { parameters := [], returnType := none }, accessFlags := 1, code := some k0c0 }
def k0m1 : Method := { name := "getClass", desc := "()Ljava/lang/Class;", sig := { parameters := [], returnType := some (.object "java/lang/Class") }, accessFlags := 273, code := none }
/-- java/lang/Object -/
def k0 : Class := { plain "java/lang/Object" none with
  accessFlags := 33
  interfaces := #[]
  cf := some (fileOf pool0 8 #[] #[{ accessFlags := 1, nameIndex := 5, descriptorIndex := 6, attributes := #[] }, { accessFlags := 273, nameIndex := 11, descriptorIndex := 12, attributes := #[] }] 33 0 #[] #[])
  fields := #[]
  methods := #[k0m0, k0m1]
  instanceTypes := #[]
  staticTypes := #[]
  resolved := Array.replicate 124 none
  statics := none }

def pool1 : Array CpInfo := pool [(2, .class_ 4), (1, u "java/lang/Object"), (0, u "<init>"), (0, u "()V"), (0, .class_ 8), (0, u "com/example/ironbound_models/ironboundmodels/interpreter/CharValue"), (0, .methodref 7 10), (0, .nameAndType 5 11), (0, u "(I)V"), (0, .methodref 13 14), (0, .class_ 15), (0, .nameAndType 16 17), (0, u "java/lang/Integer"), (0, u "valueOf"), (0, u "(I)Ljava/lang/Integer;"), (0, .methodref 7 19), (0, .nameAndType 20 21), (0, u "equals"), (0, u "(Ljava/lang/Object;)Z"), (0, .methodref 7 23), (0, .nameAndType 24 25), (0, u "compareTo"), (0, u "(Lcom/example/ironbound_models/ironboundmodels/interpreter/Value;)I"), (0, .class_ 27), (0, u "com/example/ironbound_models/ironboundmodels/interpreter/CharValueEqualsPinLaw"), (2, u "law"), (0, u "(III)Z")] 3

def k1m0 : Method := { name := "<init>", desc := "()V", sig := { parameters := [], returnType := none }, accessFlags := 1, code := none }
def k1c1 : Code := { maxStack := 3, maxLocals := 12, code := code, exceptionTable := #[], attributes := #[] }
def k1m1 : Method := { name := "law", desc := "(III)Z", sig := { parameters := [.int, .int, .int], returnType := some .boolean }, accessFlags := 9, code := some k1c1 }
/-- com/example/ironbound_models/ironboundmodels/interpreter/CharValueEqualsPinLaw -/
def k1 : Class := { plain "com/example/ironbound_models/ironboundmodels/interpreter/CharValueEqualsPinLaw" (some 0) with
  accessFlags := 49
  interfaces := #[]
  cf := some (fileOf pool1 26 #[] #[{ accessFlags := 1, nameIndex := 5, descriptorIndex := 6, attributes := #[] }, { accessFlags := 9, nameIndex := 30, descriptorIndex := 31, attributes := #[] }] 49 2 #[] #[])
  fields := #[]
  methods := #[k1m0, k1m1]
  instanceTypes := #[]
  staticTypes := #[]
  resolved := Array.replicate 35 none
  statics := none }

def pool2 : Array CpInfo := pool [(1, .class_ 2), (0, u "java/lang/Comparable"), (0, .class_ 4), (0, u "java/lang/Object")] 7

/-- java/lang/Comparable -/
def k2 : Class := { plain "java/lang/Comparable" (some 0) with
  accessFlags := 1537
  interfaces := #[]
  cf := some (fileOf pool2 1 #[] #[] 1537 3 #[] #[])
  fields := #[]
  methods := #[]
  instanceTypes := #[]
  staticTypes := #[]
  resolved := Array.replicate 12 none
  statics := none }

def pool3 : Array CpInfo := pool [(1, .methodref 2 3), (0, .class_ 4), (0, .nameAndType 5 6), (0, u "java/lang/Object"), (0, u "<init>"), (0, u "()V"), (16, .class_ 24), (0, u "com/example/ironbound_models/ironboundmodels/interpreter/Value"), (3, .methodref 23 29), (0, .nameAndType 30 31), (0, u "kind"), (0, u "()Lcom/example/ironbound_models/ironboundmodels/interpreter/Value$Kind;"), (0, .methodref 33 34), (0, .class_ 35), (0, .nameAndType 36 37), (0, u "com/example/ironbound_models/ironboundmodels/interpreter/Value$Kind"), (0, u "compareTo"), (0, u "(Ljava/lang/Enum;)I"), (0, .methodref 23 39), (0, .nameAndType 40 41), (0, u "compareWithin"), (0, u "(Lcom/example/ironbound_models/ironboundmodels/interpreter/Value;)I"), (18, .class_ 61), (0, u "java/lang/Comparable")] 18

def k3c0 : Code := { maxStack := 1, maxLocals := 1, code := prog_209_method_1_code, exceptionTable := #[], attributes := #[] }
def k3m0 : Method := { name := "<init>", desc := "()V", sig := { parameters := [], returnType := none }, accessFlags := 0, code := some k3c0 }
def k3m1 : Method := { name := "kind", desc := "()Lcom/example/ironbound_models/ironboundmodels/interpreter/Value$Kind;", sig := { parameters := [], returnType := some (.object "com/example/ironbound_models/ironboundmodels/interpreter/Value$Kind") }, accessFlags := 1024, code := none }
def k3m2 : Method := { name := "compareWithin", desc := "(Lcom/example/ironbound_models/ironboundmodels/interpreter/Value;)I", sig := { parameters := [(.object "com/example/ironbound_models/ironboundmodels/interpreter/Value")], returnType := some .int }, accessFlags := 1024, code := none }
def k3c3 : Code := { maxStack := 2, maxLocals := 3, code := prog_209_method_6_code, exceptionTable := #[], attributes := #[] }
def k3m3 : Method := { name := "compareTo", desc := "(Lcom/example/ironbound_models/ironboundmodels/interpreter/Value;)I", sig := { parameters := [(.object "com/example/ironbound_models/ironboundmodels/interpreter/Value")], returnType := some .int }, accessFlags := 17, code := some k3c3 }
/-- com/example/ironbound_models/ironboundmodels/interpreter/Value -/
def k3 : Class := { plain "com/example/ironbound_models/ironboundmodels/interpreter/Value" (some 0) with
  accessFlags := 1057
  interfaces := #[2]
  cf := some (fileOf pool3 23 #[.nestMembers #[33]] #[{ accessFlags := 0, nameIndex := 5, descriptorIndex := 6, attributes := #[] }, { accessFlags := 1024, nameIndex := 30, descriptorIndex := 31, attributes := #[] }, { accessFlags := 1024, nameIndex := 40, descriptorIndex := 41, attributes := #[] }, { accessFlags := 17, nameIndex := 36, descriptorIndex := 41, attributes := #[] }] 1057 2 #[60] #[])
  fields := #[]
  methods := #[k3m0, k3m1, k3m2, k3m3]
  instanceTypes := #[]
  staticTypes := #[]
  resolved := Array.replicate 80 none
  statics := none }

def pool4 : Array CpInfo := pool [(1, .methodref 2 3), (0, .class_ 4), (0, .nameAndType 5 6), (0, u "com/example/ironbound_models/ironboundmodels/interpreter/Value"), (0, u "<init>"), (0, u "()V"), (0, .fieldref 8 9), (0, .class_ 10), (0, .nameAndType 11 12), (0, u "com/example/ironbound_models/ironboundmodels/interpreter/CharValue"), (0, u "codePoint"), (0, u "I"), (0, .fieldref 14 15), (0, .class_ 16), (0, .nameAndType 17 18), (0, u "com/example/ironbound_models/ironboundmodels/interpreter/Value$Kind"), (0, u "CHAR"), (0, u "Lcom/example/ironbound_models/ironboundmodels/interpreter/Value$Kind;"), (0, .methodref 20 21), (0, .class_ 22), (0, .nameAndType 23 24), (0, u "java/lang/Integer"), (0, u "compare"), (0, u "(II)I"), (58, u "(I)V"), (3, u "kind"), (0, u "()Lcom/example/ironbound_models/ironboundmodels/interpreter/Value$Kind;"), (0, u "compareWithin"), (0, u "(Lcom/example/ironbound_models/ironboundmodels/interpreter/Value;)I"), (0, u "equals"), (0, u "(Ljava/lang/Object;)Z")] 6

def k4c0 : Code := { maxStack := 2, maxLocals := 2, code := prog_145_method_1_code, exceptionTable := #[], attributes := #[] }
def k4m0 : Method := { name := "<init>", desc := "(I)V", sig := { parameters := [.int], returnType := none }, accessFlags := 1, code := some k4c0 }
def k4c1 : Code := { maxStack := 1, maxLocals := 1, code := prog_145_method_3_code, exceptionTable := #[], attributes := #[] }
def k4m1 : Method := { name := "kind", desc := "()Lcom/example/ironbound_models/ironboundmodels/interpreter/Value$Kind;", sig := { parameters := [], returnType := some (.object "com/example/ironbound_models/ironboundmodels/interpreter/Value$Kind") }, accessFlags := 0, code := some k4c1 }
def k4c2 : Code := { maxStack := 2, maxLocals := 2, code := prog_145_method_4_code, exceptionTable := #[], attributes := #[] }
def k4m2 : Method := { name := "compareWithin", desc := "(Lcom/example/ironbound_models/ironboundmodels/interpreter/Value;)I", sig := { parameters := [(.object "com/example/ironbound_models/ironboundmodels/interpreter/Value")], returnType := some .int }, accessFlags := 0, code := some k4c2 }
def k4c3 : Code := { maxStack := 2, maxLocals := 2, code := prog_145_method_5_code, exceptionTable := #[], attributes := #[] }
def k4m3 : Method := { name := "equals", desc := "(Ljava/lang/Object;)Z", sig := { parameters := [(.object "java/lang/Object")], returnType := some .boolean }, accessFlags := 1, code := some k4c3 }
/-- com/example/ironbound_models/ironboundmodels/interpreter/CharValue -/
def k4 : Class := { plain "com/example/ironbound_models/ironboundmodels/interpreter/CharValue" (some 3) with
  accessFlags := 49
  interfaces := #[]
  cf := some (fileOf pool4 8 #[] #[{ accessFlags := 1, nameIndex := 5, descriptorIndex := 83, attributes := #[] }, { accessFlags := 0, nameIndex := 87, descriptorIndex := 88, attributes := #[] }, { accessFlags := 0, nameIndex := 89, descriptorIndex := 90, attributes := #[] }, { accessFlags := 1, nameIndex := 91, descriptorIndex := 92, attributes := #[] }] 49 2 #[] #[{ accessFlags := 18, nameIndex := 11, descriptorIndex := 12, attributes := #[] }])
  fields := #[{ name := "codePoint", type := .int, accessFlags := 18, slot := 0, constantValue := 0 }]
  methods := #[k4m0, k4m1, k4m2, k4m3]
  instanceTypes := #[.int]
  staticTypes := #[]
  resolved := Array.replicate 99 none
  statics := none }

def pool5 : Array CpInfo := pool [(1, .class_ 2), (0, u "java/io/Serializable"), (0, .class_ 4), (0, u "java/lang/Object")] 2

/-- java/io/Serializable -/
def k5 : Class := { plain "java/io/Serializable" (some 0) with
  accessFlags := 1537
  interfaces := #[]
  cf := some (fileOf pool5 1 #[] #[] 1537 3 #[] #[])
  fields := #[]
  methods := #[]
  instanceTypes := #[]
  staticTypes := #[]
  resolved := Array.replicate 7 none
  statics := none }

def pool6 : Array CpInfo := pool [(1, .methodref 2 3), (0, .class_ 4), (0, .nameAndType 5 6), (0, u "java/lang/Object"), (0, u "<init>"), (0, u "()V"), (1, .class_ 10), (1, u "java/lang/Number"), (2, .class_ 14), (0, u "java/io/Serializable"), (0, u "serialVersionUID"), (0, u "J")] 20

def k6c0 : Code := { maxStack := 1, maxLocals := 1, code := jdk_18_method_1_code, exceptionTable := #[], attributes := #[] }
def k6m0 : Method := { name := "<init>", desc := "()V", sig := { parameters := [], returnType := none }, accessFlags := 1, code := some k6c0 }
/-- java/lang/Number -/
def k6 : Class := { plain "java/lang/Number" (some 0) with
  accessFlags := 1057
  interfaces := #[5]
  cf := some (fileOf pool6 8 #[] #[{ accessFlags := 1, nameIndex := 5, descriptorIndex := 6, attributes := #[] }] 1057 2 #[13] #[{ accessFlags := 26, nameIndex := 15, descriptorIndex := 16, attributes := #[] }])
  fields := #[{ name := "serialVersionUID", type := .long, accessFlags := 26, slot := 0, constantValue := 0 }]
  methods := #[k6m0]
  instanceTypes := #[]
  staticTypes := #[.long]
  resolved := Array.replicate 37 none
  statics := none }

def pool7 : Array CpInfo := pool [(1, .class_ 2), (0, u "java/lang/constant/Constable"), (0, .class_ 4), (0, u "java/lang/Object")] 6

/-- java/lang/constant/Constable -/
def k7 : Class := { plain "java/lang/constant/Constable" (some 0) with
  accessFlags := 1537
  interfaces := #[]
  cf := some (fileOf pool7 1 #[] #[] 1537 3 #[] #[])
  fields := #[]
  methods := #[]
  instanceTypes := #[]
  staticTypes := #[]
  resolved := Array.replicate 11 none
  statics := none }

def pool8 : Array CpInfo := pool [(1, .class_ 2), (0, u "java/lang/constant/ConstantDesc"), (0, .class_ 4), (0, u "java/lang/Object")] 32

/-- java/lang/constant/ConstantDesc -/
def k8 : Class := { plain "java/lang/constant/ConstantDesc" (some 0) with
  accessFlags := 1537
  interfaces := #[]
  cf := some (fileOf pool8 1 #[] #[] 1537 3 #[] #[])
  fields := #[]
  methods := #[]
  instanceTypes := #[]
  staticTypes := #[]
  resolved := Array.replicate 37 none
  statics := none }

def pool9 : Array CpInfo := pool [(1, .class_ 2), (0, u "java/lang/Integer"), (16, u "digits"), (0, u "[C"), (39, u "(II)I"), (6, u "<init>"), (17, u "DigitOnes"), (0, u "[B"), (2, u "DigitTens"), (10, .nameAndType 67 101), (0, u "()V"), (85, u "valueOf"), (0, u "(I)Ljava/lang/Integer;"), (0, .class_ 190), (0, u "java/lang/Integer$IntegerCache"), (0, .fieldref 189 192), (0, .nameAndType 193 194), (0, u "high"), (0, u "I"), (0, .fieldref 189 196), (0, .nameAndType 197 198), (0, u "cache"), (0, u "[Ljava/lang/Integer;"), (0, .methodref 1 200), (0, .nameAndType 67 201), (0, u "(I)V"), (0, .methodref 203 100), (0, .class_ 204), (0, u "java/lang/Number"), (0, .fieldref 1 206), (0, .nameAndType 207 194), (0, u "value"), (53, u "compare"), (40, u "TYPE"), (0, u "Ljava/lang/Class;"), (0, .class_ 305), (0, u "java/lang/Comparable"), (0, .class_ 307), (0, u "java/lang/constant/Constable"), (0, .class_ 309), (0, u "java/lang/constant/ConstantDesc"), (0, u "MIN_VALUE"), (1, u "MAX_VALUE"), (3, u "SIZE"), (1, u "BYTES"), (1, u "serialVersionUID"), (0, u "J")] 131

def k9c0 : Code := { maxStack := 3, maxLocals := 1, code := jdk_33_method_22_code, exceptionTable := #[], attributes := #[] }
def k9m0 : Method := { name := "valueOf", desc := "(I)Ljava/lang/Integer;", sig := { parameters := [.int], returnType := some (.object "java/lang/Integer") }, accessFlags := 9, code := some k9c0 }
def k9c1 : Code := { maxStack := 2, maxLocals := 2, code := jdk_33_method_23_code, exceptionTable := #[], attributes := #[] }
def k9m1 : Method := { name := "<init>", desc := "(I)V", sig := { parameters := [.int], returnType := none }, accessFlags := 1, code := some k9c1 }
def k9c2 : Code := { maxStack := 2, maxLocals := 2, code := jdk_33_method_40_code, exceptionTable := #[], attributes := #[] }
def k9m2 : Method := { name := "compare", desc := "(II)I", sig := { parameters := [.int, .int], returnType := some .int }, accessFlags := 9, code := some k9c2 }
/-- java/lang/Integer -/
def k9 : Class := { plain "java/lang/Integer" (some 6) with
  accessFlags := 49
  interfaces := #[2, 7, 8]
  cf := some (fileOf pool9 1 #[.nestMembers #[189]] #[{ accessFlags := 9, nameIndex := 187, descriptorIndex := 188, attributes := #[] }, { accessFlags := 1, nameIndex := 67, descriptorIndex := 201, attributes := #[] }, { accessFlags := 9, nameIndex := 261, descriptorIndex := 60, attributes := #[] }] 49 203 #[304, 306, 308] #[{ accessFlags := 25, nameIndex := 310, descriptorIndex := 194, attributes := #[] }, { accessFlags := 25, nameIndex := 312, descriptorIndex := 194, attributes := #[] }, { accessFlags := 25, nameIndex := 302, descriptorIndex := 303, attributes := #[] }, { accessFlags := 24, nameIndex := 19, descriptorIndex := 20, attributes := #[] }, { accessFlags := 24, nameIndex := 89, descriptorIndex := 86, attributes := #[] }, { accessFlags := 24, nameIndex := 85, descriptorIndex := 86, attributes := #[] }, { accessFlags := 18, nameIndex := 207, descriptorIndex := 194, attributes := #[] }, { accessFlags := 25, nameIndex := 316, descriptorIndex := 194, attributes := #[] }, { accessFlags := 25, nameIndex := 318, descriptorIndex := 194, attributes := #[] }, { accessFlags := 26, nameIndex := 320, descriptorIndex := 321, attributes := #[] }])
  fields := #[{ name := "MIN_VALUE", type := .int, accessFlags := 25, slot := 0, constantValue := 0 }, { name := "MAX_VALUE", type := .int, accessFlags := 25, slot := 1, constantValue := 0 }, { name := "TYPE", type := (.object "java/lang/Class"), accessFlags := 25, slot := 2, constantValue := 0 }, { name := "digits", type := (.array .char), accessFlags := 24, slot := 3, constantValue := 0 }, { name := "DigitTens", type := (.array .byte), accessFlags := 24, slot := 4, constantValue := 0 }, { name := "DigitOnes", type := (.array .byte), accessFlags := 24, slot := 5, constantValue := 0 }, { name := "value", type := .int, accessFlags := 18, slot := 0, constantValue := 0 }, { name := "SIZE", type := .int, accessFlags := 25, slot := 6, constantValue := 0 }, { name := "BYTES", type := .int, accessFlags := 25, slot := 7, constantValue := 0 }, { name := "serialVersionUID", type := .long, accessFlags := 26, slot := 8, constantValue := 0 }]
  methods := #[k9m0, k9m1, k9m2]
  instanceTypes := #[.int]
  staticTypes := #[.int, .int, (.object "java/lang/Class"), (.array .char), (.array .byte), (.array .byte), .int, .int, .long]
  resolved := Array.replicate 453 none
  statics := none }

def pool10 : Array CpInfo := pool [(2, .class_ 4), (1, u "java/lang/Object"), (0, u "<init>"), (0, u "()V"), (0, .class_ 8), (0, u "java/lang/Integer"), (7, .class_ 18), (1, u "java/lang/Integer$IntegerCache"), (0, u "$assertionsDisabled"), (0, u "Z"), (26, u "high"), (0, u "I"), (8, u "archivedCache"), (0, u "[Ljava/lang/Integer;"), (12, u "cache"), (0, u "low")] 27

def k10m0 : Method := { name := "<init>", desc := "()V", sig := { parameters := [], returnType := none }, accessFlags := 2, code := none }
/-- java/lang/Integer$IntegerCache -/
def k10 : Class := { plain "java/lang/Integer$IntegerCache" (some 0) with
  accessFlags := 48
  interfaces := #[]
  cf := some (fileOf pool10 16 #[.nestHost 7] #[{ accessFlags := 2, nameIndex := 5, descriptorIndex := 6, attributes := #[] }] 48 2 #[] #[{ accessFlags := 24, nameIndex := 72, descriptorIndex := 48, attributes := #[] }, { accessFlags := 24, nameIndex := 47, descriptorIndex := 48, attributes := #[] }, { accessFlags := 24, nameIndex := 71, descriptorIndex := 58, attributes := #[] }, { accessFlags := 8, nameIndex := 57, descriptorIndex := 58, attributes := #[] }, { accessFlags := 4120, nameIndex := 19, descriptorIndex := 20, attributes := #[] }])
  fields := #[{ name := "low", type := .int, accessFlags := 24, slot := 0, constantValue := 0 }, { name := "high", type := .int, accessFlags := 24, slot := 1, constantValue := 0 }, { name := "cache", type := (.array (.object "java/lang/Integer")), accessFlags := 24, slot := 2, constantValue := 0 }, { name := "archivedCache", type := (.array (.object "java/lang/Integer")), accessFlags := 8, slot := 3, constantValue := 0 }, { name := "$assertionsDisabled", type := .boolean, accessFlags := 4120, slot := 4, constantValue := 0 }]
  methods := #[k10m0]
  instanceTypes := #[]
  staticTypes := #[.int, .int, (.array (.object "java/lang/Integer")), (.array (.object "java/lang/Integer")), .boolean]
  resolved := Array.replicate 100 none
  statics := some 0 }

def pool11 : Array CpInfo := pool [(2, .class_ 4), (1, u "java/lang/Enum"), (0, u "name"), (0, u "Ljava/lang/String;"), (0, .fieldref 2 8), (0, .nameAndType 9 10), (0, u "ordinal"), (0, u "I"), (1, .class_ 14), (1, u "java/lang/Object"), (4, u "hash"), (9, .methodref 12 30), (0, .nameAndType 31 32), (0, u "getClass"), (0, u "()Ljava/lang/Class;"), (70, u "compareTo"), (0, u "(Ljava/lang/Enum;)I"), (1, .class_ 108), (1, u "java/lang/Enum$EnumDesc"), (2, .class_ 112), (0, u "java/lang/constant/Constable"), (0, .class_ 114), (0, u "java/lang/Comparable"), (0, .class_ 116), (0, u "java/io/Serializable")] 87

def k11c0 : Code := { maxStack := 2, maxLocals := 4, code := jdk_37_method_8_code, exceptionTable := #[], attributes := #[] }
def k11m0 : Method := { name := "compareTo", desc := "(Ljava/lang/Enum;)I", sig := { parameters := [(.object "java/lang/Enum")], returnType := some .int }, accessFlags := 17, code := some k11c0 }
/-- java/lang/Enum -/
def k11 : Class := { plain "java/lang/Enum" (some 0) with
  accessFlags := 1057
  interfaces := #[7, 2, 5]
  cf := some (fileOf pool11 2 #[.nestMembers #[106]] #[{ accessFlags := 17, nameIndex := 103, descriptorIndex := 104, attributes := #[] }] 1057 12 #[111, 113, 115] #[{ accessFlags := 18, nameIndex := 5, descriptorIndex := 6, attributes := #[] }, { accessFlags := 18, nameIndex := 9, descriptorIndex := 10, attributes := #[] }, { accessFlags := 2, nameIndex := 19, descriptorIndex := 10, attributes := #[] }])
  fields := #[{ name := "name", type := (.object "java/lang/String"), accessFlags := 18, slot := 0, constantValue := 0 }, { name := "ordinal", type := .int, accessFlags := 18, slot := 1, constantValue := 0 }, { name := "hash", type := .int, accessFlags := 2, slot := 2, constantValue := 0 }]
  methods := #[k11m0]
  instanceTypes := #[(.object "java/lang/String"), .int, .int]
  staticTypes := #[]
  resolved := Array.replicate 204 none
  statics := none }

def pool12 : Array CpInfo := pool [(1, .class_ 2), (0, u "com/example/ironbound_models/ironboundmodels/interpreter/Value$Kind"), (2, u "VOID"), (0, u "Lcom/example/ironbound_models/ironboundmodels/interpreter/Value$Kind;"), (2, u "NIL"), (2, u "BOOL"), (2, u "NUMBER"), (2, u "CHAR"), (2, u "QUOTE"), (2, u "TOKEN"), (2, u "SEQUENCE"), (2, u "SET"), (2, u "MAP"), (2, u "TUPLE"), (2, u "RECORD"), (2, u "OBJECT"), (2, u "FUNCTION"), (2, u "$VALUES"), (0, u "[Lcom/example/ironbound_models/ironboundmodels/interpreter/Value$Kind;"), (6, .class_ 58), (1, u "java/lang/Enum"), (37, .class_ 97), (0, u "com/example/ironbound_models/ironboundmodels/interpreter/Value")] 2

/-- com/example/ironbound_models/ironboundmodels/interpreter/Value$Kind -/
def k12 : Class := { plain "com/example/ironbound_models/ironboundmodels/interpreter/Value$Kind" (some 11) with
  accessFlags := 16432
  interfaces := #[]
  cf := some (fileOf pool12 1 #[.nestHost 96] #[] 16432 56 #[] #[{ accessFlags := 16409, nameIndex := 5, descriptorIndex := 6, attributes := #[] }, { accessFlags := 16409, nameIndex := 9, descriptorIndex := 6, attributes := #[] }, { accessFlags := 16409, nameIndex := 12, descriptorIndex := 6, attributes := #[] }, { accessFlags := 16409, nameIndex := 15, descriptorIndex := 6, attributes := #[] }, { accessFlags := 16409, nameIndex := 18, descriptorIndex := 6, attributes := #[] }, { accessFlags := 16409, nameIndex := 21, descriptorIndex := 6, attributes := #[] }, { accessFlags := 16409, nameIndex := 24, descriptorIndex := 6, attributes := #[] }, { accessFlags := 16409, nameIndex := 27, descriptorIndex := 6, attributes := #[] }, { accessFlags := 16409, nameIndex := 30, descriptorIndex := 6, attributes := #[] }, { accessFlags := 16409, nameIndex := 33, descriptorIndex := 6, attributes := #[] }, { accessFlags := 16409, nameIndex := 36, descriptorIndex := 6, attributes := #[] }, { accessFlags := 16409, nameIndex := 39, descriptorIndex := 6, attributes := #[] }, { accessFlags := 16409, nameIndex := 42, descriptorIndex := 6, attributes := #[] }, { accessFlags := 16409, nameIndex := 45, descriptorIndex := 6, attributes := #[] }, { accessFlags := 4122, nameIndex := 48, descriptorIndex := 49, attributes := #[] }])
  fields := #[{ name := "VOID", type := (.object "com/example/ironbound_models/ironboundmodels/interpreter/Value$Kind"), accessFlags := 16409, slot := 0, constantValue := 0 }, { name := "NIL", type := (.object "com/example/ironbound_models/ironboundmodels/interpreter/Value$Kind"), accessFlags := 16409, slot := 1, constantValue := 0 }, { name := "BOOL", type := (.object "com/example/ironbound_models/ironboundmodels/interpreter/Value$Kind"), accessFlags := 16409, slot := 2, constantValue := 0 }, { name := "NUMBER", type := (.object "com/example/ironbound_models/ironboundmodels/interpreter/Value$Kind"), accessFlags := 16409, slot := 3, constantValue := 0 }, { name := "CHAR", type := (.object "com/example/ironbound_models/ironboundmodels/interpreter/Value$Kind"), accessFlags := 16409, slot := 4, constantValue := 0 }, { name := "QUOTE", type := (.object "com/example/ironbound_models/ironboundmodels/interpreter/Value$Kind"), accessFlags := 16409, slot := 5, constantValue := 0 }, { name := "TOKEN", type := (.object "com/example/ironbound_models/ironboundmodels/interpreter/Value$Kind"), accessFlags := 16409, slot := 6, constantValue := 0 }, { name := "SEQUENCE", type := (.object "com/example/ironbound_models/ironboundmodels/interpreter/Value$Kind"), accessFlags := 16409, slot := 7, constantValue := 0 }, { name := "SET", type := (.object "com/example/ironbound_models/ironboundmodels/interpreter/Value$Kind"), accessFlags := 16409, slot := 8, constantValue := 0 }, { name := "MAP", type := (.object "com/example/ironbound_models/ironboundmodels/interpreter/Value$Kind"), accessFlags := 16409, slot := 9, constantValue := 0 }, { name := "TUPLE", type := (.object "com/example/ironbound_models/ironboundmodels/interpreter/Value$Kind"), accessFlags := 16409, slot := 10, constantValue := 0 }, { name := "RECORD", type := (.object "com/example/ironbound_models/ironboundmodels/interpreter/Value$Kind"), accessFlags := 16409, slot := 11, constantValue := 0 }, { name := "OBJECT", type := (.object "com/example/ironbound_models/ironboundmodels/interpreter/Value$Kind"), accessFlags := 16409, slot := 12, constantValue := 0 }, { name := "FUNCTION", type := (.object "com/example/ironbound_models/ironboundmodels/interpreter/Value$Kind"), accessFlags := 16409, slot := 13, constantValue := 0 }, { name := "$VALUES", type := (.array (.object "com/example/ironbound_models/ironboundmodels/interpreter/Value$Kind")), accessFlags := 4122, slot := 14, constantValue := 0 }]
  methods := #[]
  instanceTypes := #[(.object "java/lang/String"), .int, .int]
  staticTypes := #[(.object "com/example/ironbound_models/ironboundmodels/interpreter/Value$Kind"), (.object "com/example/ironbound_models/ironboundmodels/interpreter/Value$Kind"), (.object "com/example/ironbound_models/ironboundmodels/interpreter/Value$Kind"), (.object "com/example/ironbound_models/ironboundmodels/interpreter/Value$Kind"), (.object "com/example/ironbound_models/ironboundmodels/interpreter/Value$Kind"), (.object "com/example/ironbound_models/ironboundmodels/interpreter/Value$Kind"), (.object "com/example/ironbound_models/ironboundmodels/interpreter/Value$Kind"), (.object "com/example/ironbound_models/ironboundmodels/interpreter/Value$Kind"), (.object "com/example/ironbound_models/ironboundmodels/interpreter/Value$Kind"), (.object "com/example/ironbound_models/ironboundmodels/interpreter/Value$Kind"), (.object "com/example/ironbound_models/ironboundmodels/interpreter/Value$Kind"), (.object "com/example/ironbound_models/ironboundmodels/interpreter/Value$Kind"), (.object "com/example/ironbound_models/ironboundmodels/interpreter/Value$Kind"), (.object "com/example/ironbound_models/ironboundmodels/interpreter/Value$Kind"), (.array (.object "com/example/ironbound_models/ironboundmodels/interpreter/Value$Kind"))]
  resolved := Array.replicate 100 none
  mirror := some 260
  statics := some 1 }

def pool13 : Array CpInfo := pool [(1, u "java/lang/Cloneable"), (0, .class_ 1), (0, u "java/lang/Object"), (0, .class_ 3)] 3

/-- java/lang/Cloneable -/
def k13 : Class := { plain "java/lang/Cloneable" (some 0) with
  accessFlags := 1537
  interfaces := #[]
  cf := some (fileOf pool13 2 #[] #[] 1537 4 #[] #[])
  fields := #[]
  methods := #[]
  instanceTypes := #[]
  staticTypes := #[]
  resolved := Array.replicate 8 none
  statics := none }

/-- the primitive byte -/
def k14 : Class := { plain "byte" none with kind := .primitive 'B', accessFlags := 0x411 }
/-- [B -/
def k15 : Class := { plain "[B" (some 0) with kind := .array 14 .byte, interfaces := #[13, 5], accessFlags := 1041 }

/-- the primitive int -/
def k16 : Class := { plain "int" none with kind := .primitive 'I', accessFlags := 0x411 }
/-- [I -/
def k17 : Class := { plain "[I" (some 0) with kind := .array 16 .int, interfaces := #[13, 5], accessFlags := 1041 }

/-- [Ljava/lang/Integer; -/
def k18 : Class := { plain "[Ljava/lang/Integer;" (some 0) with kind := .array 9 (.object "java/lang/Integer"), interfaces := #[13, 5], accessFlags := 1041 }

def heap : Heap := #[{ cls := 10, slots := #[.int 0, .int 127, .ref 2, .null, .int 0], vm := .statics 10 },
  { cls := 12, slots := #[.null, .null, .null, .null, .ref 3, .null, .null, .null, .null, .null, .null, .null, .null, .null, .null], vm := .statics 12 },
  { cls := 18, slots := #[.ref 4, .ref 5, .ref 6, .ref 7, .ref 8, .ref 9, .ref 10, .ref 11, .ref 12, .ref 13, .ref 14, .ref 15, .ref 16, .ref 17, .ref 18, .ref 19, .ref 20, .ref 21, .ref 22, .ref 23, .ref 24, .ref 25, .ref 26, .ref 27, .ref 28, .ref 29, .ref 30, .ref 31, .ref 32, .ref 33, .ref 34, .ref 35, .ref 36, .ref 37, .ref 38, .ref 39, .ref 40, .ref 41, .ref 42, .ref 43, .ref 44, .ref 45, .ref 46, .ref 47, .ref 48, .ref 49, .ref 50, .ref 51, .ref 52, .ref 53, .ref 54, .ref 55, .ref 56, .ref 57, .ref 58, .ref 59, .ref 60, .ref 61, .ref 62, .ref 63, .ref 64, .ref 65, .ref 66, .ref 67, .ref 68, .ref 69, .ref 70, .ref 71, .ref 72, .ref 73, .ref 74, .ref 75, .ref 76, .ref 77, .ref 78, .ref 79, .ref 80, .ref 81, .ref 82, .ref 83, .ref 84, .ref 85, .ref 86, .ref 87, .ref 88, .ref 89, .ref 90, .ref 91, .ref 92, .ref 93, .ref 94, .ref 95, .ref 96, .ref 97, .ref 98, .ref 99, .ref 100, .ref 101, .ref 102, .ref 103, .ref 104, .ref 105, .ref 106, .ref 107, .ref 108, .ref 109, .ref 110, .ref 111, .ref 112, .ref 113, .ref 114, .ref 115, .ref 116, .ref 117, .ref 118, .ref 119, .ref 120, .ref 121, .ref 122, .ref 123, .ref 124, .ref 125, .ref 126, .ref 127, .ref 128, .ref 129, .ref 130, .ref 131, .ref 132, .ref 133, .ref 134, .ref 135, .ref 136, .ref 137, .ref 138, .ref 139, .ref 140, .ref 141, .ref 142, .ref 143, .ref 144, .ref 145, .ref 146, .ref 147, .ref 148, .ref 149, .ref 150, .ref 151, .ref 152, .ref 153, .ref 154, .ref 155, .ref 156, .ref 157, .ref 158, .ref 159, .ref 160, .ref 161, .ref 162, .ref 163, .ref 164, .ref 165, .ref 166, .ref 167, .ref 168, .ref 169, .ref 170, .ref 171, .ref 172, .ref 173, .ref 174, .ref 175, .ref 176, .ref 177, .ref 178, .ref 179, .ref 180, .ref 181, .ref 182, .ref 183, .ref 184, .ref 185, .ref 186, .ref 187, .ref 188, .ref 189, .ref 190, .ref 191, .ref 192, .ref 193, .ref 194, .ref 195, .ref 196, .ref 197, .ref 198, .ref 199, .ref 200, .ref 201, .ref 202, .ref 203, .ref 204, .ref 205, .ref 206, .ref 207, .ref 208, .ref 209, .ref 210, .ref 211, .ref 212, .ref 213, .ref 214, .ref 215, .ref 216, .ref 217, .ref 218, .ref 219, .ref 220, .ref 221, .ref 222, .ref 223, .ref 224, .ref 225, .ref 226, .ref 227, .ref 228, .ref 229, .ref 230, .ref 231, .ref 232, .ref 233, .ref 234, .ref 235, .ref 236, .ref 237, .ref 238, .ref 239, .ref 240, .ref 241, .ref 242, .ref 243, .ref 244, .ref 245, .ref 246, .ref 247, .ref 248, .ref 249, .ref 250, .ref 251, .ref 252, .ref 253, .ref 254, .ref 255, .ref 256, .ref 257, .ref 258, .ref 259], vm := .none },
  { cls := 12, slots := #[.null, .int 4, .int 0], vm := .none },
  { cls := 9, slots := #[.int (-128)], vm := .none },
  { cls := 9, slots := #[.int (-127)], vm := .none },
  { cls := 9, slots := #[.int (-126)], vm := .none },
  { cls := 9, slots := #[.int (-125)], vm := .none },
  { cls := 9, slots := #[.int (-124)], vm := .none },
  { cls := 9, slots := #[.int (-123)], vm := .none },
  { cls := 9, slots := #[.int (-122)], vm := .none },
  { cls := 9, slots := #[.int (-121)], vm := .none },
  { cls := 9, slots := #[.int (-120)], vm := .none },
  { cls := 9, slots := #[.int (-119)], vm := .none },
  { cls := 9, slots := #[.int (-118)], vm := .none },
  { cls := 9, slots := #[.int (-117)], vm := .none },
  { cls := 9, slots := #[.int (-116)], vm := .none },
  { cls := 9, slots := #[.int (-115)], vm := .none },
  { cls := 9, slots := #[.int (-114)], vm := .none },
  { cls := 9, slots := #[.int (-113)], vm := .none },
  { cls := 9, slots := #[.int (-112)], vm := .none },
  { cls := 9, slots := #[.int (-111)], vm := .none },
  { cls := 9, slots := #[.int (-110)], vm := .none },
  { cls := 9, slots := #[.int (-109)], vm := .none },
  { cls := 9, slots := #[.int (-108)], vm := .none },
  { cls := 9, slots := #[.int (-107)], vm := .none },
  { cls := 9, slots := #[.int (-106)], vm := .none },
  { cls := 9, slots := #[.int (-105)], vm := .none },
  { cls := 9, slots := #[.int (-104)], vm := .none },
  { cls := 9, slots := #[.int (-103)], vm := .none },
  { cls := 9, slots := #[.int (-102)], vm := .none },
  { cls := 9, slots := #[.int (-101)], vm := .none },
  { cls := 9, slots := #[.int (-100)], vm := .none },
  { cls := 9, slots := #[.int (-99)], vm := .none },
  { cls := 9, slots := #[.int (-98)], vm := .none },
  { cls := 9, slots := #[.int (-97)], vm := .none },
  { cls := 9, slots := #[.int (-96)], vm := .none },
  { cls := 9, slots := #[.int (-95)], vm := .none },
  { cls := 9, slots := #[.int (-94)], vm := .none },
  { cls := 9, slots := #[.int (-93)], vm := .none },
  { cls := 9, slots := #[.int (-92)], vm := .none },
  { cls := 9, slots := #[.int (-91)], vm := .none },
  { cls := 9, slots := #[.int (-90)], vm := .none },
  { cls := 9, slots := #[.int (-89)], vm := .none },
  { cls := 9, slots := #[.int (-88)], vm := .none },
  { cls := 9, slots := #[.int (-87)], vm := .none },
  { cls := 9, slots := #[.int (-86)], vm := .none },
  { cls := 9, slots := #[.int (-85)], vm := .none },
  { cls := 9, slots := #[.int (-84)], vm := .none },
  { cls := 9, slots := #[.int (-83)], vm := .none },
  { cls := 9, slots := #[.int (-82)], vm := .none },
  { cls := 9, slots := #[.int (-81)], vm := .none },
  { cls := 9, slots := #[.int (-80)], vm := .none },
  { cls := 9, slots := #[.int (-79)], vm := .none },
  { cls := 9, slots := #[.int (-78)], vm := .none },
  { cls := 9, slots := #[.int (-77)], vm := .none },
  { cls := 9, slots := #[.int (-76)], vm := .none },
  { cls := 9, slots := #[.int (-75)], vm := .none },
  { cls := 9, slots := #[.int (-74)], vm := .none },
  { cls := 9, slots := #[.int (-73)], vm := .none },
  { cls := 9, slots := #[.int (-72)], vm := .none },
  { cls := 9, slots := #[.int (-71)], vm := .none },
  { cls := 9, slots := #[.int (-70)], vm := .none },
  { cls := 9, slots := #[.int (-69)], vm := .none },
  { cls := 9, slots := #[.int (-68)], vm := .none },
  { cls := 9, slots := #[.int (-67)], vm := .none },
  { cls := 9, slots := #[.int (-66)], vm := .none },
  { cls := 9, slots := #[.int (-65)], vm := .none },
  { cls := 9, slots := #[.int (-64)], vm := .none },
  { cls := 9, slots := #[.int (-63)], vm := .none },
  { cls := 9, slots := #[.int (-62)], vm := .none },
  { cls := 9, slots := #[.int (-61)], vm := .none },
  { cls := 9, slots := #[.int (-60)], vm := .none },
  { cls := 9, slots := #[.int (-59)], vm := .none },
  { cls := 9, slots := #[.int (-58)], vm := .none },
  { cls := 9, slots := #[.int (-57)], vm := .none },
  { cls := 9, slots := #[.int (-56)], vm := .none },
  { cls := 9, slots := #[.int (-55)], vm := .none },
  { cls := 9, slots := #[.int (-54)], vm := .none },
  { cls := 9, slots := #[.int (-53)], vm := .none },
  { cls := 9, slots := #[.int (-52)], vm := .none },
  { cls := 9, slots := #[.int (-51)], vm := .none },
  { cls := 9, slots := #[.int (-50)], vm := .none },
  { cls := 9, slots := #[.int (-49)], vm := .none },
  { cls := 9, slots := #[.int (-48)], vm := .none },
  { cls := 9, slots := #[.int (-47)], vm := .none },
  { cls := 9, slots := #[.int (-46)], vm := .none },
  { cls := 9, slots := #[.int (-45)], vm := .none },
  { cls := 9, slots := #[.int (-44)], vm := .none },
  { cls := 9, slots := #[.int (-43)], vm := .none },
  { cls := 9, slots := #[.int (-42)], vm := .none },
  { cls := 9, slots := #[.int (-41)], vm := .none },
  { cls := 9, slots := #[.int (-40)], vm := .none },
  { cls := 9, slots := #[.int (-39)], vm := .none },
  { cls := 9, slots := #[.int (-38)], vm := .none },
  { cls := 9, slots := #[.int (-37)], vm := .none },
  { cls := 9, slots := #[.int (-36)], vm := .none },
  { cls := 9, slots := #[.int (-35)], vm := .none },
  { cls := 9, slots := #[.int (-34)], vm := .none },
  { cls := 9, slots := #[.int (-33)], vm := .none },
  { cls := 9, slots := #[.int (-32)], vm := .none },
  { cls := 9, slots := #[.int (-31)], vm := .none },
  { cls := 9, slots := #[.int (-30)], vm := .none },
  { cls := 9, slots := #[.int (-29)], vm := .none },
  { cls := 9, slots := #[.int (-28)], vm := .none },
  { cls := 9, slots := #[.int (-27)], vm := .none },
  { cls := 9, slots := #[.int (-26)], vm := .none },
  { cls := 9, slots := #[.int (-25)], vm := .none },
  { cls := 9, slots := #[.int (-24)], vm := .none },
  { cls := 9, slots := #[.int (-23)], vm := .none },
  { cls := 9, slots := #[.int (-22)], vm := .none },
  { cls := 9, slots := #[.int (-21)], vm := .none },
  { cls := 9, slots := #[.int (-20)], vm := .none },
  { cls := 9, slots := #[.int (-19)], vm := .none },
  { cls := 9, slots := #[.int (-18)], vm := .none },
  { cls := 9, slots := #[.int (-17)], vm := .none },
  { cls := 9, slots := #[.int (-16)], vm := .none },
  { cls := 9, slots := #[.int (-15)], vm := .none },
  { cls := 9, slots := #[.int (-14)], vm := .none },
  { cls := 9, slots := #[.int (-13)], vm := .none },
  { cls := 9, slots := #[.int (-12)], vm := .none },
  { cls := 9, slots := #[.int (-11)], vm := .none },
  { cls := 9, slots := #[.int (-10)], vm := .none },
  { cls := 9, slots := #[.int (-9)], vm := .none },
  { cls := 9, slots := #[.int (-8)], vm := .none },
  { cls := 9, slots := #[.int (-7)], vm := .none },
  { cls := 9, slots := #[.int (-6)], vm := .none },
  { cls := 9, slots := #[.int (-5)], vm := .none },
  { cls := 9, slots := #[.int (-4)], vm := .none },
  { cls := 9, slots := #[.int (-3)], vm := .none },
  { cls := 9, slots := #[.int (-2)], vm := .none },
  { cls := 9, slots := #[.int (-1)], vm := .none },
  { cls := 9, slots := #[.int (0)], vm := .none },
  { cls := 9, slots := #[.int (1)], vm := .none },
  { cls := 9, slots := #[.int (2)], vm := .none },
  { cls := 9, slots := #[.int (3)], vm := .none },
  { cls := 9, slots := #[.int (4)], vm := .none },
  { cls := 9, slots := #[.int (5)], vm := .none },
  { cls := 9, slots := #[.int (6)], vm := .none },
  { cls := 9, slots := #[.int (7)], vm := .none },
  { cls := 9, slots := #[.int (8)], vm := .none },
  { cls := 9, slots := #[.int (9)], vm := .none },
  { cls := 9, slots := #[.int (10)], vm := .none },
  { cls := 9, slots := #[.int (11)], vm := .none },
  { cls := 9, slots := #[.int (12)], vm := .none },
  { cls := 9, slots := #[.int (13)], vm := .none },
  { cls := 9, slots := #[.int (14)], vm := .none },
  { cls := 9, slots := #[.int (15)], vm := .none },
  { cls := 9, slots := #[.int (16)], vm := .none },
  { cls := 9, slots := #[.int (17)], vm := .none },
  { cls := 9, slots := #[.int (18)], vm := .none },
  { cls := 9, slots := #[.int (19)], vm := .none },
  { cls := 9, slots := #[.int (20)], vm := .none },
  { cls := 9, slots := #[.int (21)], vm := .none },
  { cls := 9, slots := #[.int (22)], vm := .none },
  { cls := 9, slots := #[.int (23)], vm := .none },
  { cls := 9, slots := #[.int (24)], vm := .none },
  { cls := 9, slots := #[.int (25)], vm := .none },
  { cls := 9, slots := #[.int (26)], vm := .none },
  { cls := 9, slots := #[.int (27)], vm := .none },
  { cls := 9, slots := #[.int (28)], vm := .none },
  { cls := 9, slots := #[.int (29)], vm := .none },
  { cls := 9, slots := #[.int (30)], vm := .none },
  { cls := 9, slots := #[.int (31)], vm := .none },
  { cls := 9, slots := #[.int (32)], vm := .none },
  { cls := 9, slots := #[.int (33)], vm := .none },
  { cls := 9, slots := #[.int (34)], vm := .none },
  { cls := 9, slots := #[.int (35)], vm := .none },
  { cls := 9, slots := #[.int (36)], vm := .none },
  { cls := 9, slots := #[.int (37)], vm := .none },
  { cls := 9, slots := #[.int (38)], vm := .none },
  { cls := 9, slots := #[.int (39)], vm := .none },
  { cls := 9, slots := #[.int (40)], vm := .none },
  { cls := 9, slots := #[.int (41)], vm := .none },
  { cls := 9, slots := #[.int (42)], vm := .none },
  { cls := 9, slots := #[.int (43)], vm := .none },
  { cls := 9, slots := #[.int (44)], vm := .none },
  { cls := 9, slots := #[.int (45)], vm := .none },
  { cls := 9, slots := #[.int (46)], vm := .none },
  { cls := 9, slots := #[.int (47)], vm := .none },
  { cls := 9, slots := #[.int (48)], vm := .none },
  { cls := 9, slots := #[.int (49)], vm := .none },
  { cls := 9, slots := #[.int (50)], vm := .none },
  { cls := 9, slots := #[.int (51)], vm := .none },
  { cls := 9, slots := #[.int (52)], vm := .none },
  { cls := 9, slots := #[.int (53)], vm := .none },
  { cls := 9, slots := #[.int (54)], vm := .none },
  { cls := 9, slots := #[.int (55)], vm := .none },
  { cls := 9, slots := #[.int (56)], vm := .none },
  { cls := 9, slots := #[.int (57)], vm := .none },
  { cls := 9, slots := #[.int (58)], vm := .none },
  { cls := 9, slots := #[.int (59)], vm := .none },
  { cls := 9, slots := #[.int (60)], vm := .none },
  { cls := 9, slots := #[.int (61)], vm := .none },
  { cls := 9, slots := #[.int (62)], vm := .none },
  { cls := 9, slots := #[.int (63)], vm := .none },
  { cls := 9, slots := #[.int (64)], vm := .none },
  { cls := 9, slots := #[.int (65)], vm := .none },
  { cls := 9, slots := #[.int (66)], vm := .none },
  { cls := 9, slots := #[.int (67)], vm := .none },
  { cls := 9, slots := #[.int (68)], vm := .none },
  { cls := 9, slots := #[.int (69)], vm := .none },
  { cls := 9, slots := #[.int (70)], vm := .none },
  { cls := 9, slots := #[.int (71)], vm := .none },
  { cls := 9, slots := #[.int (72)], vm := .none },
  { cls := 9, slots := #[.int (73)], vm := .none },
  { cls := 9, slots := #[.int (74)], vm := .none },
  { cls := 9, slots := #[.int (75)], vm := .none },
  { cls := 9, slots := #[.int (76)], vm := .none },
  { cls := 9, slots := #[.int (77)], vm := .none },
  { cls := 9, slots := #[.int (78)], vm := .none },
  { cls := 9, slots := #[.int (79)], vm := .none },
  { cls := 9, slots := #[.int (80)], vm := .none },
  { cls := 9, slots := #[.int (81)], vm := .none },
  { cls := 9, slots := #[.int (82)], vm := .none },
  { cls := 9, slots := #[.int (83)], vm := .none },
  { cls := 9, slots := #[.int (84)], vm := .none },
  { cls := 9, slots := #[.int (85)], vm := .none },
  { cls := 9, slots := #[.int (86)], vm := .none },
  { cls := 9, slots := #[.int (87)], vm := .none },
  { cls := 9, slots := #[.int (88)], vm := .none },
  { cls := 9, slots := #[.int (89)], vm := .none },
  { cls := 9, slots := #[.int (90)], vm := .none },
  { cls := 9, slots := #[.int (91)], vm := .none },
  { cls := 9, slots := #[.int (92)], vm := .none },
  { cls := 9, slots := #[.int (93)], vm := .none },
  { cls := 9, slots := #[.int (94)], vm := .none },
  { cls := 9, slots := #[.int (95)], vm := .none },
  { cls := 9, slots := #[.int (96)], vm := .none },
  { cls := 9, slots := #[.int (97)], vm := .none },
  { cls := 9, slots := #[.int (98)], vm := .none },
  { cls := 9, slots := #[.int (99)], vm := .none },
  { cls := 9, slots := #[.int (100)], vm := .none },
  { cls := 9, slots := #[.int (101)], vm := .none },
  { cls := 9, slots := #[.int (102)], vm := .none },
  { cls := 9, slots := #[.int (103)], vm := .none },
  { cls := 9, slots := #[.int (104)], vm := .none },
  { cls := 9, slots := #[.int (105)], vm := .none },
  { cls := 9, slots := #[.int (106)], vm := .none },
  { cls := 9, slots := #[.int (107)], vm := .none },
  { cls := 9, slots := #[.int (108)], vm := .none },
  { cls := 9, slots := #[.int (109)], vm := .none },
  { cls := 9, slots := #[.int (110)], vm := .none },
  { cls := 9, slots := #[.int (111)], vm := .none },
  { cls := 9, slots := #[.int (112)], vm := .none },
  { cls := 9, slots := #[.int (113)], vm := .none },
  { cls := 9, slots := #[.int (114)], vm := .none },
  { cls := 9, slots := #[.int (115)], vm := .none },
  { cls := 9, slots := #[.int (116)], vm := .none },
  { cls := 9, slots := #[.int (117)], vm := .none },
  { cls := 9, slots := #[.int (118)], vm := .none },
  { cls := 9, slots := #[.int (119)], vm := .none },
  { cls := 9, slots := #[.int (120)], vm := .none },
  { cls := 9, slots := #[.int (121)], vm := .none },
  { cls := 9, slots := #[.int (122)], vm := .none },
  { cls := 9, slots := #[.int (123)], vm := .none },
  { cls := 9, slots := #[.int (124)], vm := .none },
  { cls := 9, slots := #[.int (125)], vm := .none },
  { cls := 9, slots := #[.int (126)], vm := .none },
  { cls := 9, slots := #[.int (127)], vm := .none },
  { cls := 0, slots := #[], vm := .mirror 12 }]
def classes : Array Class := #[k0, k1, k2, k3, k4, k5, k6, k7, k8, k9, k10, k11, k12, k13, k14, k15, k16, k17, k18]
def interned : List (Array UInt16 × Addr) := []
def slotsUsed : Nat := 535
def theMethod : MethodId := ⟨1, 1⟩
def args0 : Array Value := #[.int 5, .int 6, .int 7]
def aboutOver (below : List Frame) : State where
  vm := { classes := classes, interned := interned.toArray }
  heap := heap
  slotsUsed := slotsUsed
  threads := #[{ frames := .invoking theMethod args0 :: below }]
def below0 : List Frame := [.native { method := ⟨0, 0⟩, args := #[] }]
def about1 : State := aboutOver below0
def p0 : Program := .bare "" "" ""
def e0 : Env := launch0.env 0 0 0
theorem w_frames : about1.frames = Frame.invoking theMethod args0 :: below0 := rfl
set_option maxRecDepth 65536 in
theorem w_args : argsFit about1.vm theMethod args0 = true := by decide +kernel
set_option maxRecDepth 65536 in
theorem w_heap : heapFits about1 = true := by decide +kernel
set_option maxRecDepth 65536 in
theorem w_runnable : about1.curStatus? = some .runnable := by decide +kernel
set_option maxRecDepth 65536 in
theorem w_alone : about1.alone = true := by decide +kernel
set_option maxRecDepth 65536 in
theorem w_named : about1.methodNamed? x = some theMethod := by decide +kernel
set_option maxRecDepth 65536 in
theorem w_hears : about1.hears theMethod below0 = true := by decide +kernel
set_option maxRecDepth 65536 in
theorem w_ripe : about1.ripe theMethod args0 below0 = true := by decide +kernel
theorem w_running : about1.status = .running := rfl
set_option maxRecDepth 65536 in
theorem w_room : about1.hasRoom e0.platform room_1 = true :=
  launch0.hasRoom_least _ room_1 (by decide +kernel) (by decide +kernel) (by decide +kernel) (by decide +kernel) (by decide +kernel) (by decide +kernel)
theorem allAtoms_all (ts : List Jvm.Cond) (a : Array Jvm.Value) (st : Jvm.State) : (allAtoms ts).before a st = ts.all (fun c => c.before a st) := by
  induction ts with
  | nil => rfl
  | cons c t ih =>
    show (Jvm.Cond.and c (allAtoms t)).before a st = _
    rw [Jvm.Cond.before_and, ih, List.all_cons]
def words1 : List Jvm.Cond := Jvm.Cond.code x code maxLocals ret :: tables_1
/-- a 'code' word, met by the world's own term for the bytes: nothing is compared byte by byte -/
theorem code_word {y : MethodName} {bytes : ByteArray} {mx : Nat} {rt : Option FieldType} {a : Array Value} {s : State} {m : MethodId} {meth : Method} {c : Code} (h1 : s.methodNamed? y = some m) (h2 : s.vm.method? m = some meth) (h3 : meth.code = some c) (h4 : c.code = bytes)
    (h5 : (c.maxLocals == mx && c.exceptionTable.isEmpty && decide (c.maxStack ≤ mostOperands) && decide (meth.sig.returnType = rt) && !meth.locks && decide (parseMethodDescriptor y.desc = some meth.sig)) = true) : (Jvm.Cond.code y bytes mx rt).before a s = true := by
  simp only [Bool.and_eq_true, beq_iff_eq, Bool.not_eq_true', decide_eq_true_eq] at h5
  obtain ⟨⟨⟨⟨⟨g1, g2⟩, g3⟩, g4⟩, g5⟩, g6⟩ := h5
  simp [Cond.before, Cond.holds, Cond.value, h1, h2, h3, h4, g1, g2, g3, g4, g5, g6]
def isCode : Jvm.Cond → Bool
  | .code _ _ _ _ => true
  | _ => false
theorem all_split {L : List Jvm.Cond} {P : Jvm.Cond → Bool} (h1 : L.all (fun c => isCode c || P c) = true) (h2 : ∀ c ∈ L.filter isCode, P c = true) : L.all P = true := by
  refine List.all_eq_true.mpr fun c hc => ?_
  have h := List.all_eq_true.mp h1 c hc
  rcases Bool.eq_false_or_eq_true (isCode c) with hi | hi
  · exact h2 c (List.mem_filter.mpr ⟨hc, hi⟩)
  · simpa [hi] using h
set_option maxRecDepth 65536 in
theorem w_c0 : (Jvm.Cond.code x code maxLocals ret).before args0 about1 = true := code_word (m := ⟨1, 1⟩) (meth := k1m1) (c := k1c1) (by decide +kernel) rfl rfl rfl (by decide +kernel)
set_option maxRecDepth 65536 in
theorem w_c1 : (Jvm.Cond.code ({ cls := "com/example/ironbound_models/ironboundmodels/interpreter/CharValue", name := "<init>", desc := "(I)V" } : Jvm.MethodName) prog_145_method_1_code (2 : Nat) (Option.none : Option Jvm.ClassFile.FieldType)).before args0 about1 = true := code_word (m := ⟨4, 0⟩) (meth := k4m0) (c := k4c0) (by decide +kernel) rfl rfl rfl (by decide +kernel)
set_option maxRecDepth 65536 in
theorem w_c2 : (Jvm.Cond.code ({ cls := "com/example/ironbound_models/ironboundmodels/interpreter/Value", name := "<init>", desc := "()V" } : Jvm.MethodName) prog_209_method_1_code (1 : Nat) (Option.none : Option Jvm.ClassFile.FieldType)).before args0 about1 = true := code_word (m := ⟨3, 0⟩) (meth := k3m0) (c := k3c0) (by decide +kernel) rfl rfl rfl (by decide +kernel)
set_option maxRecDepth 65536 in
theorem w_c3 : (Jvm.Cond.code ({ cls := "java/lang/Object", name := "<init>", desc := "()V" } : Jvm.MethodName) object_method_1_code (1 : Nat) (Option.none : Option Jvm.ClassFile.FieldType)).before args0 about1 = true := code_word (m := ⟨0, 0⟩) (meth := k0m0) (c := k0c0) (by decide +kernel) rfl rfl rfl (by decide +kernel)
set_option maxRecDepth 65536 in
theorem w_c4 : (Jvm.Cond.code ({ cls := "java/lang/Integer", name := "valueOf", desc := "(I)Ljava/lang/Integer;" } : Jvm.MethodName) jdk_33_method_22_code (1 : Nat) (Option.some (Jvm.ClassFile.FieldType.object "java/lang/Integer"))).before args0 about1 = true := code_word (m := ⟨9, 0⟩) (meth := k9m0) (c := k9c0) (by decide +kernel) rfl rfl rfl (by decide +kernel)
set_option maxRecDepth 65536 in
theorem w_c5 : (Jvm.Cond.code ({ cls := "com/example/ironbound_models/ironboundmodels/interpreter/CharValue", name := "equals", desc := "(Ljava/lang/Object;)Z" } : Jvm.MethodName) prog_145_method_5_code (2 : Nat) (Option.some Jvm.ClassFile.FieldType.boolean)).before args0 about1 = true := code_word (m := ⟨4, 3⟩) (meth := k4m3) (c := k4c3) (by decide +kernel) rfl rfl rfl (by decide +kernel)
set_option maxRecDepth 65536 in
theorem w_c6 : (Jvm.Cond.code ({ cls := "com/example/ironbound_models/ironboundmodels/interpreter/Value", name := "compareTo", desc := "(Lcom/example/ironbound_models/ironboundmodels/interpreter/Value;)I" } : Jvm.MethodName) prog_209_method_6_code (3 : Nat) (Option.some Jvm.ClassFile.FieldType.int)).before args0 about1 = true := code_word (m := ⟨3, 3⟩) (meth := k3m3) (c := k3c3) (by decide +kernel) rfl rfl rfl (by decide +kernel)
set_option maxRecDepth 65536 in
theorem w_c7 : (Jvm.Cond.code ({ cls := "com/example/ironbound_models/ironboundmodels/interpreter/CharValue", name := "kind", desc := "()Lcom/example/ironbound_models/ironboundmodels/interpreter/Value$Kind;" } : Jvm.MethodName) prog_145_method_3_code (1 : Nat) (Option.some (Jvm.ClassFile.FieldType.object "com/example/ironbound_models/ironboundmodels/interpreter/Value$Kind"))).before args0 about1 = true := code_word (m := ⟨4, 1⟩) (meth := k4m1) (c := k4c1) (by decide +kernel) rfl rfl rfl (by decide +kernel)
set_option maxRecDepth 65536 in
theorem w_c8 : (Jvm.Cond.code ({ cls := "java/lang/Enum", name := "compareTo", desc := "(Ljava/lang/Enum;)I" } : Jvm.MethodName) jdk_37_method_8_code (4 : Nat) (Option.some Jvm.ClassFile.FieldType.int)).before args0 about1 = true := code_word (m := ⟨11, 0⟩) (meth := k11m0) (c := k11c0) (by decide +kernel) rfl rfl rfl (by decide +kernel)
set_option maxRecDepth 65536 in
theorem w_c9 : (Jvm.Cond.code ({ cls := "com/example/ironbound_models/ironboundmodels/interpreter/CharValue", name := "compareWithin", desc := "(Lcom/example/ironbound_models/ironboundmodels/interpreter/Value;)I" } : Jvm.MethodName) prog_145_method_4_code (2 : Nat) (Option.some Jvm.ClassFile.FieldType.int)).before args0 about1 = true := code_word (m := ⟨4, 2⟩) (meth := k4m2) (c := k4c2) (by decide +kernel) rfl rfl rfl (by decide +kernel)
set_option maxRecDepth 65536 in
theorem w_c10 : (Jvm.Cond.code ({ cls := "java/lang/Integer", name := "compare", desc := "(II)I" } : Jvm.MethodName) jdk_33_method_40_code (2 : Nat) (Option.some Jvm.ClassFile.FieldType.int)).before args0 about1 = true := code_word (m := ⟨9, 2⟩) (meth := k9m2) (c := k9c2) (by decide +kernel) rfl rfl rfl (by decide +kernel)
set_option maxRecDepth 65536 in
theorem w_c11 : (Jvm.Cond.code ({ cls := "java/lang/Integer", name := "<init>", desc := "(I)V" } : Jvm.MethodName) jdk_33_method_23_code (2 : Nat) (Option.none : Option Jvm.ClassFile.FieldType)).before args0 about1 = true := code_word (m := ⟨9, 1⟩) (meth := k9m1) (c := k9c1) (by decide +kernel) rfl rfl rfl (by decide +kernel)
set_option maxRecDepth 65536 in
theorem w_c12 : (Jvm.Cond.code ({ cls := "java/lang/Number", name := "<init>", desc := "()V" } : Jvm.MethodName) jdk_18_method_1_code (1 : Nat) (Option.none : Option Jvm.ClassFile.FieldType)).before args0 about1 = true := code_word (m := ⟨6, 0⟩) (meth := k6m0) (c := k6c0) (by decide +kernel) rfl rfl rfl (by decide +kernel)
def codes1 : List Jvm.Cond := [Jvm.Cond.code x code maxLocals ret, Jvm.Cond.code ({ cls := "com/example/ironbound_models/ironboundmodels/interpreter/CharValue", name := "<init>", desc := "(I)V" } : Jvm.MethodName) prog_145_method_1_code (2 : Nat) (Option.none : Option Jvm.ClassFile.FieldType), Jvm.Cond.code ({ cls := "com/example/ironbound_models/ironboundmodels/interpreter/Value", name := "<init>", desc := "()V" } : Jvm.MethodName) prog_209_method_1_code (1 : Nat) (Option.none : Option Jvm.ClassFile.FieldType), Jvm.Cond.code ({ cls := "java/lang/Object", name := "<init>", desc := "()V" } : Jvm.MethodName) object_method_1_code (1 : Nat) (Option.none : Option Jvm.ClassFile.FieldType), Jvm.Cond.code ({ cls := "java/lang/Integer", name := "valueOf", desc := "(I)Ljava/lang/Integer;" } : Jvm.MethodName) jdk_33_method_22_code (1 : Nat) (Option.some (Jvm.ClassFile.FieldType.object "java/lang/Integer")), Jvm.Cond.code ({ cls := "com/example/ironbound_models/ironboundmodels/interpreter/CharValue", name := "equals", desc := "(Ljava/lang/Object;)Z" } : Jvm.MethodName) prog_145_method_5_code (2 : Nat) (Option.some Jvm.ClassFile.FieldType.boolean), Jvm.Cond.code ({ cls := "com/example/ironbound_models/ironboundmodels/interpreter/Value", name := "compareTo", desc := "(Lcom/example/ironbound_models/ironboundmodels/interpreter/Value;)I" } : Jvm.MethodName) prog_209_method_6_code (3 : Nat) (Option.some Jvm.ClassFile.FieldType.int), Jvm.Cond.code ({ cls := "com/example/ironbound_models/ironboundmodels/interpreter/CharValue", name := "kind", desc := "()Lcom/example/ironbound_models/ironboundmodels/interpreter/Value$Kind;" } : Jvm.MethodName) prog_145_method_3_code (1 : Nat) (Option.some (Jvm.ClassFile.FieldType.object "com/example/ironbound_models/ironboundmodels/interpreter/Value$Kind")), Jvm.Cond.code ({ cls := "java/lang/Enum", name := "compareTo", desc := "(Ljava/lang/Enum;)I" } : Jvm.MethodName) jdk_37_method_8_code (4 : Nat) (Option.some Jvm.ClassFile.FieldType.int), Jvm.Cond.code ({ cls := "com/example/ironbound_models/ironboundmodels/interpreter/CharValue", name := "compareWithin", desc := "(Lcom/example/ironbound_models/ironboundmodels/interpreter/Value;)I" } : Jvm.MethodName) prog_145_method_4_code (2 : Nat) (Option.some Jvm.ClassFile.FieldType.int), Jvm.Cond.code ({ cls := "java/lang/Integer", name := "compare", desc := "(II)I" } : Jvm.MethodName) jdk_33_method_40_code (2 : Nat) (Option.some Jvm.ClassFile.FieldType.int), Jvm.Cond.code ({ cls := "java/lang/Integer", name := "<init>", desc := "(I)V" } : Jvm.MethodName) jdk_33_method_23_code (2 : Nat) (Option.none : Option Jvm.ClassFile.FieldType), Jvm.Cond.code ({ cls := "java/lang/Number", name := "<init>", desc := "()V" } : Jvm.MethodName) jdk_18_method_1_code (1 : Nat) (Option.none : Option Jvm.ClassFile.FieldType)]
set_option maxRecDepth 65536 in
theorem codes_eq : words1.filter isCode = codes1 := rfl
theorem w_codes : ∀ c ∈ words1.filter isCode, c.before args0 about1 = true := by
  rw [codes_eq]
  intro c hc
  simp only [codes1, List.mem_cons, List.not_mem_nil, or_false] at hc
  rcases hc with rfl | rfl | rfl | rfl | rfl | rfl | rfl | rfl | rfl | rfl | rfl | rfl | rfl
  · exact w_c0
  · exact w_c1
  · exact w_c2
  · exact w_c3
  · exact w_c4
  · exact w_c5
  · exact w_c6
  · exact w_c7
  · exact w_c8
  · exact w_c9
  · exact w_c10
  · exact w_c11
  · exact w_c12
set_option maxRecDepth 65536 in
theorem w_t1 : (words1.take 24).all (fun c => isCode c || c.before args0 about1) = true := by decide +kernel
set_option maxRecDepth 65536 in
theorem w_t2 : ((words1.drop 24).take 24).all (fun c => isCode c || c.before args0 about1) = true := by decide +kernel
set_option maxRecDepth 65536 in
theorem w_t3 : (((words1.drop 24).drop 24).take 24).all (fun c => isCode c || c.before args0 about1) = true := by decide +kernel
set_option maxRecDepth 65536 in
theorem w_t4 : (((words1.drop 24).drop 24).drop 24).all (fun c => isCode c || c.before args0 about1) = true := by decide +kernel
theorem w_tables : (allAtoms (Jvm.Cond.code x code maxLocals ret :: tables_1)).before args0 about1 = true := by
  rw [allAtoms_all]
  show words1.all (fun c => c.before args0 about1) = true
  refine all_split ?_ w_codes
  rw [← List.take_append_drop 24 words1, List.all_append, w_t1, ← List.take_append_drop 24 (words1.drop 24), List.all_append, w_t2, ← List.take_append_drop 24 ((words1.drop 24).drop 24), List.all_append, w_t3, w_t4]
  rfl
set_option maxRecDepth 65536 in
theorem w_rest : rest_1_c.before args0 about1 = true := by decide +kernel
set_option maxRecDepth 65536 in
theorem w_case : (Jvm.Cond.and given_1 narrow_1).before args0 about1 = true := by decide +kernel
theorem w_applies : (headSpec (Jvm.Cond.code x code maxLocals ret :: tables_1) room_1).applies x e0.platform about1 = true :=
  (Spec.applies_iff w_frames).mpr ⟨w_running, w_runnable, w_alone, w_named, w_hears, w_ripe, w_room, w_tables⟩
set_option maxRecDepth 65536 in
theorem atStart : AtStart classFile x code maxLocals ret World_1 tables_1 room_1 Calls_1 rest_1 Pre_1 launch0 p0 e0 about1 theMethod args0 below0 :=
  ⟨lists_1, trivial, launch0.admits_env _ _ _, launch0.least_env, fairChoices_fair.cas, fairChoices_fair.clock, w_frames, w_args, w_heap, w_applies, ⟨⟨12, k12, 260, by decide +kernel, rfl, rfl, _, rfl, rfl⟩, trivial⟩, w_rest, w_case⟩
end start1
theorem witness_1 : WitnessClaimed_1 := ⟨start1.p0, start1.e0, start1.about1, start1.theMethod, start1.args0, start1.below0, start1.atStart⟩
end Jvm.Pilot.@@N@@

