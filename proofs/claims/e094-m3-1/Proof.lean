import JvmDerived
import JvmDerived.Pilot.@@N@@Statement
import JvmDerived.Pilot.@@N@@Code
set_option linter.unusedVariables false
set_option linter.unusedSimpArgs false

namespace Jvm.RoadKit
open Sem ClassFile Op Lib Jvm.Stand Jvm.Free Jvm.LawKit
section OwnKit
variable {p : Program} {l : Launch} {e : Env} {R : Room} {s : State} {m : MethodId} {args : Array Value} {below : List Frame} {meth : Method} {c : Code} {T : State} {locs : List Loc} {cells slots : Nat} {Z : State} {a0 : Array Value} {h : Heap}
/-- one for a truth, nought else -/
def own_bi (q : Prop) [Decidable q] : Int32 := if q then 1 else 0
theorem own_bi_t {q : Prop} [Decidable q] (h : q) : own_bi q = 1 := if_pos h
theorem own_bi_f {q : Prop} [Decidable q] (h : ¬ q) : own_bi q = 0 := if_neg h
theorem own_bi_01 (q : Prop) [Decidable q] : own_bi q = 0 ∨ own_bi q = 1 := by unfold own_bi; split <;> simp
theorem own_bi_0 {q : Prop} [Decidable q] : own_bi q = 0 ↔ ¬ q := by unfold own_bi; split <;> simp_all
theorem own_bi_1 {q : Prop} [Decidable q] : own_bi q = 1 ↔ q := by unfold own_bi; split <;> simp_all
theorem own_bi_eq {q r : Prop} [Decidable q] [Decidable r] : own_bi q = own_bi r ↔ (q ↔ r) := by unfold own_bi; split <;> split <;> simp_all
theorem own_bi_fits (q : Prop) [Decidable q] : fits .boolean (.int (own_bi q)) = true := by unfold own_bi; split <;> rfl
theorem own_bi_nar (q : Prop) [Decidable q] : narrow .boolean (.int (own_bi q)) = .int (own_bi q) := by unfold own_bi; split <;> rfl
/-- from U the invocation comes to an end of which Rr holds -/
def Gl (p : Program) (e : Env) (below : List Frame) (Rr : State → Outcome → Prop) (U : State) : Prop := ∃ s₂ o, Steps p.tables e below U s₂ ∧ Rr s₂ o
theorem Gl.st {Rr : State → Outcome → Prop} {U U' : State} (f : ∀ t, Steps p.tables e below U' t → Steps p.tables e below U t) (g : Gl p e below Rr U') : Gl p e below Rr U := by
  obtain ⟨a, b, h1, h2⟩ := g
  exact ⟨a, b, f _ h1, h2⟩
/-- what is asked of the end -/
def Rq (s : State) (below : List Frame) (QQ : Option Value → Heap → List Loc → Prop) (k n : Nat) (s₂ : State) (o : Outcome) : Prop := s₂.status = .running ∧ Ended s₂ below o ∧ ∃ v L, o = .returned v ∧ QQ v s₂.heap L ∧ FrameEnd s o s₂ L k n
theorem Gl.join {Rr : State → Outcome → Prop} {U : State} {α : Type} (P : α → Prop) (f : α → State) (k : (∀ b, P b → Gl p e below Rr (f b)) → Gl p e below Rr U) (j : ∀ b, P b → Gl p e below Rr (f b)) : Gl p e below Rr U := k j
theorem Gl.joinS (X : Stand p l e R s m args below meth c T locs cells slots) {Rr : State → Outcome → Prop} {U : State} {β : Type} (kc ks : Nat) (P : State → List Loc → β → Prop) (f : State → β → State)
    (k : (∀ T' locs' b, Stand p l e R s m args below meth c T' locs' kc ks → P T' locs' b → Gl p e below Rr (f T' b)) → Gl p e below Rr U) (j : ∀ T' locs' b, Stand p l e R s m args below meth c T' locs' kc ks → P T' locs' b → Gl p e below Rr (f T' b)) : Gl p e below Rr U := k j
/-- a cell of the machine's own kind isn't there -/
def own_K (h : Heap) (a : Addr) : Prop := ∃ cell : Cell, h[a]? = some cell ∧ cell.vm ≠ .unknown
theorem own_K_wr {h h' : Heap} {a b : Addr} {sl : Nat} {v : Value} (W : Wr h h' a sl v) (F : own_K h b) : own_K h' b := by
  obtain ⟨cell, h1, h2⟩ := F
  obtain ⟨c', e1, -, e3, -⟩ := wr_at W h1
  exact ⟨c', e1, by rw [e3]; exact h2⟩
theorem own_K_ext {h h' : Heap} {b : Addr} (E : Ext h h') (F : own_K h b) : own_K h' b := by
  obtain ⟨cell, h1, h2⟩ := F
  exact ⟨cell, E.2 _ _ h1, h2⟩
theorem own_K_keep {h h' : Heap} {b : Addr} {ws : List Addr} (K : Keep h h' ws) (F : own_K h b) : own_K h' b := by
  obtain ⟨cell, h1, h2⟩ := F
  obtain ⟨c', q, -, r2, -⟩ := K.2.2 b cell h1
  exact ⟨c', q, by rw [r2]; exact h2⟩
theorem own_K_new {h : Heap} {a : Addr} (F : ∃ cell : Cell, h[a]? = some cell ∧ cell.vm = .none ∧ cell.monitor = {}) : own_K h a := by
  obtain ⟨cell, h1, h2, -⟩ := F
  exact ⟨cell, h1, by rw [h2]; simp⟩
theorem own_K_fld {h : Heap} {a : Addr} {C n d : String} {v : Value} (F : Fld Z h a C n d v) : own_K h a := by
  obtain ⟨cell, _, _, _, _, h1, -, -, h4, -⟩ := F
  exact ⟨cell, h1, h4⟩
/-- the type that a descriptor names -/
def own_ty (d : String) : FieldType := (parseFieldDescriptor d).getD .int
theorem own_ty_eq {d : String} (h : (parseFieldDescriptor d).isSome = true) : parseFieldDescriptor d = some (own_ty d) := by
  unfold own_ty
  cases q : parseFieldDescriptor d with
  | none => rw [q] at h; cases h
  | some t => rfl
theorem own_nn {t : FieldType} : narrow t .null = .null := by cases t <;> rfl
theorem own_lenOf {d : String} {n : Nat} (hd : (parseMethodDescriptor d).map (fun s => s.parameters.length) = some n) {L : List Value} (hl : L.length = n) : ∀ sig, parseMethodDescriptor d = some sig → L.length = sig.parameters.length := fun sig h => by
  rw [h] at hd
  rw [hl]
  exact (Option.some.inj hd).symm
theorem own_nz {z : Int32} (h : z = 0 ∨ z = 1) : narrow .boolean (.int z) = .int z := by rcases h with rfl | rfl <;> rfl
theorem own_fz {z : Int32} (h : z = 0 ∨ z = 1) : fits .boolean (.int z) = true := by rcases h with rfl | rfl <;> rfl
theorem own_nr {v : Value} {C : String} : narrow (.object C) v = v := by cases v <;> rfl
theorem own_fr {v : Value} {C : String} (h : v.isRef = true) : fits (.object C) v = true := by rcases ref_cases h with rfl | ⟨a, rfl⟩ <;> rfl
theorem own_cat1 {v : Value} (h : v.isRef = true) : v.category = 1 := by cases v <;> first | rfl | simp_all [Value.isRef]
theorem Gl.fin (X : Stand p l e R s m args below meth c T locs cells slots) {v : Option Value} (hv : meth.sig.returnType = none → v = none) (hlk : meth.locks = false) {QQ : Option Value → Heap → List Loc → Prop} {k n : Nat} {g : JFrame}
    (hst : ∀ fs, (∀ (f : JFrame) (acts : List Action), f.method = m → f.locked = none → f.entered = [] → (doReturn e (T.setTop f) acts v).1 = T.setFrames fs) → Steps p.tables e below (T.setTop g) (T.setFrames fs))
    (hq : QQ v T.heap locs) (hk : cells ≤ k) (hn : slots ≤ n) : Gl p e below (Rq s below QQ k n) (T.setTop g) := by
  obtain ⟨fs, hr, hrun, hended, hW, hsame⟩ := X.leave (v := v) hv hlk
  exact ⟨_, _, hst fs hr, hrun, hended, v, locs, rfl, hq, ⟨v, rfl⟩, hW, hsame.mono hk hn⟩
theorem Gl.retW (X : Stand p l e R s m args below meth c T locs cells slots) (hx : p.tables.exec = Jvm.exec) {t : FieldType} (hret : meth.sig.returnType = some t) (hlk : meth.locks = false) {pc : Nat} {Ls : Array Slot} {w : Value} {i : Instr} {rest : List Value} (hn : narrow t w = w)
    (hi : (i = .ireturn ∧ (t = .int ∨ t = .boolean ∨ t = .byte ∨ t = .char ∨ t = .short) ∧ ∃ z, w = .int z) ∨ (i = .lreturn ∧ t = .long ∧ ∃ z, w = .long z) ∨ (i = .dreturn ∧ t = .double ∧ ∃ z, w = .double z) ∨ (i = .freturn ∧ t = .float ∧ ∃ z, w = .float z) ∨ (i = .areturn ∧ t.isReference = true ∧ w.isRef = true))
    (hd : decode c.code pc = .ok (i, 1)) {QQ : Option Value → Heap → List Loc → Prop} {k n : Nat} (hq : QQ (some w) T.heap locs) (hk : cells ≤ k) (hs : slots ≤ n) : Gl p e below (Rq s below QQ k n) (T.setTop (mkF m pc Ls (w :: rest))) :=
  Gl.fin X (fun q => by rw [hret] at q; cases q) hlk (fun _ hr => retOut X hx hret hn hi hd hr) hq hk hs
theorem Gl.retZ (X : Stand p l e R s m args below meth c T locs cells slots) (hx : p.tables.exec = Jvm.exec) (hret : meth.sig.returnType = some .boolean) (hlk : meth.locks = false) {pc : Nat} {Ls : Array Slot} {z : Int32} {rest : List Value}
    (hd : decode c.code pc = .ok (.ireturn, 1)) (hz : z = 0 ∨ z = 1) {QQ : Option Value → Heap → List Loc → Prop} {k n : Nat} (hq : QQ (some (.int z)) T.heap locs) (hk : cells ≤ k) (hs : slots ≤ n) : Gl p e below (Rq s below QQ k n) (T.setTop (mkF m pc Ls (.int z :: rest))) :=
  Gl.retW X hx hret hlk (by rcases hz with rfl | rfl <;> rfl) (Or.inl ⟨rfl, by simp, z, rfl⟩) hd hq hk hs
theorem Gl.retI (X : Stand p l e R s m args below meth c T locs cells slots) (hx : p.tables.exec = Jvm.exec) (hret : meth.sig.returnType = some .int) (hlk : meth.locks = false) {pc : Nat} {Ls : Array Slot} {z : Int32} {rest : List Value}
    (hd : decode c.code pc = .ok (.ireturn, 1)) {QQ : Option Value → Heap → List Loc → Prop} {k n : Nat} (hq : QQ (some (.int z)) T.heap locs) (hk : cells ≤ k) (hs : slots ≤ n) : Gl p e below (Rq s below QQ k n) (T.setTop (mkF m pc Ls (.int z :: rest))) :=
  Gl.retW X hx hret hlk rfl (Or.inl ⟨rfl, by simp, z, rfl⟩) hd hq hk hs
theorem Gl.retJ (X : Stand p l e R s m args below meth c T locs cells slots) (hx : p.tables.exec = Jvm.exec) (hret : meth.sig.returnType = some .long) (hlk : meth.locks = false) {pc : Nat} {Ls : Array Slot} {z : Int64} {rest : List Value}
    (hd : decode c.code pc = .ok (.lreturn, 1)) {QQ : Option Value → Heap → List Loc → Prop} {k n : Nat} (hq : QQ (some (.long z)) T.heap locs) (hk : cells ≤ k) (hs : slots ≤ n) : Gl p e below (Rq s below QQ k n) (T.setTop (mkF m pc Ls (.long z :: rest))) :=
  Gl.retW X hx hret hlk rfl (Or.inr (Or.inl ⟨rfl, rfl, z, rfl⟩)) hd hq hk hs
theorem Gl.retA (X : Stand p l e R s m args below meth c T locs cells slots) (hx : p.tables.exec = Jvm.exec) {t : FieldType} (hret : meth.sig.returnType = some t) (ht : t.isReference = true) (hlk : meth.locks = false) {pc : Nat} {Ls : Array Slot} {w : Value} {rest : List Value} (hw : w.isRef = true)
    (hd : decode c.code pc = .ok (.areturn, 1)) {QQ : Option Value → Heap → List Loc → Prop} {k n : Nat} (hq : QQ (some w) T.heap locs) (hk : cells ≤ k) (hs : slots ≤ n) : Gl p e below (Rq s below QQ k n) (T.setTop (mkF m pc Ls (w :: rest))) :=
  Gl.retW X hx hret hlk (by cases t <;> first | rfl | cases ht) (Or.inr (Or.inr (Or.inr (Or.inr ⟨rfl, ht, hw⟩)))) hd hq hk hs
theorem Gl.retV (X : Stand p l e R s m args below meth c T locs cells slots) (hx : p.tables.exec = Jvm.exec) (hret : meth.sig.returnType = none) (hlk : meth.locks = false) {pc : Nat} {Ls : Array Slot}
    (hd : decode c.code pc = .ok (.return_, 1)) {QQ : Option Value → Heap → List Loc → Prop} {k n : Nat} (hq : QQ none T.heap locs) (hk : cells ≤ k) (hs : slots ≤ n) : Gl p e below (Rq s below QQ k n) (T.setTop (mkF m pc Ls [])) :=
  Gl.fin X (fun _ => rfl) hlk (fun _ hr => X.returnOut hx hret hd hr) hq hk hs
/-- what a body does from the heap h0 with these arguments -/
def Con (ws : List Cond) (l : Launch) (Z : State) (y : MethodName) (bytes : ByteArray) (maxL : Nat) (ret : Option FieldType) (rm : Room) (as' : Array Value) (h0 : Heap) (QQ : Option Value → Heap → List Loc → Prop) : Prop :=
  MetFree l y (head1 (Cond.code y bytes maxL ret :: ws) rm) (fun a U => a = as' ∧ Z.Warmed39 U.vm ∧ U.heap = h0) (fun _ _ _ _ _ => True) (fun _ U o U' => ∃ v L, o = .returned v ∧ QQ v U'.heap L ∧ FrameEnd U o U' L rm.cells rm.slots)
theorem Con.of {ws : List Cond} {l : Launch} {Z : State} {y : MethodName} {bytes : ByteArray} {maxL : Nat} {ret : Option FieldType} {rm : Room} {as' : Array Value} {h0 : Heap} {QQ : Option Value → Heap → List Loc → Prop} {Ls : Array Slot}
    (hp : plainFor y = true) (ef : ∀ m : MethodId, entryFrame m as' maxL = mkF m 0 Ls [])
    (body : ∀ (p : Program) (e : Env) (s : State) (m : MethodId) (below : List Frame) (meth : Method) (c : Code) (T : State), p.tables.exec = Jvm.exec → c.code = bytes → c.maxLocals = maxL → s.vm.findClass y.cls = some m.cls → meth.name = y.name → meth.sig.returnType = ret → meth.locks = false → Z.Warmed39 s.vm → T.heap = h0 → Stand p l e rm s m as' below meth c T [] 0 0 →
      Gl p e below (Rq s below QQ rm.cells rm.slots) (T.setTop (mkF m 0 Ls []))) : Con ws l Z y bytes maxL ret rm as' h0 QQ := by
  refine MetFree.of_bodySF hp hisR ?_
  intro p e s m args below meth c s₁ Bd hml0 hP hK
  obtain ⟨rfl, hZ, hh⟩ := hP
  obtain ⟨s₂, o, h1, h2, h3, h4⟩ := body p e s m below meth c s₁ Bd.exec Bd.bytes hml0 (findClass_of_methodNamed Bd.named) (name_of_methodNamed Bd.named Bd.method).1 Bd.returns Bd.notSynchronized hZ (by rw [← hh, Bd.state]; rfl) (Stand.of_body Bd)
  exact ⟨s₂, o, castTop (ef m) h1, h2, h3, h4⟩
theorem gCallS (X : Stand p l e R s m args below meth c T locs cells slots) (hx : p.tables.exec = Jvm.exec) (hZ : Z.Warmed39 s.vm) {own : String} {index : Nat} {y : MethodName} {bytes : ByteArray} {maxL : Nat} {ret : Option FieldType} (hown : s.vm.findClass own = some m.cls)
    (w1 : (Cond.methodLink own index y).before a0 Z = true) (w2 : (Cond.static y).before a0 Z = true) (w3 : (Cond.initialized y.cls).before a0 Z = true) (w4 : (Cond.code y bytes maxL ret).before a0 Z = true) (hy : y.cls ≠ "java/lang/invoke/MethodHandle" ∧ y.cls ≠ "java/lang/invoke/VarHandle")
    {rm : Room} {as' : Array Value} {QQ : Option Value → Heap → List Loc → Prop} (hC : Con [] l Z y bytes maxL ret rm as' h QQ) (eT : T.heap = h) (hf : rm.frames + 1 ≤ R.frames) {W : Nat} (hl : W + (maxL + 11) + rm.locals ≤ R.locals) (hc : cells + rm.cells ≤ R.cells) (hs : slots + rm.slots ≤ R.slots)
    {g : JFrame} (hg : g.method = m) (hsize : g.locals.size = c.maxLocals) {argsL rest : List Value} (hlen : ∀ sig, parseMethodDescriptor y.desc = some sig → argsL.length = sig.parameters.length) (hstack : g.stack = argsL.reverse ++ rest) (has : argsL.toArray = as') (hW : 2 * g.monitorRoom + (rest.map fun v => v.category).sum ≤ W) (hd : decode c.code g.pc = .ok (.invokestatic index, 3))
    {Rr : State → Outcome → Prop} (k : ∀ (v : Option Value) (T' : State) (L : List Loc), Stand p l e R s m args below meth c T' (locs ++ L) (cells + rm.cells) (slots + rm.slots) → QQ v T'.heap L → Gl p e below Rr (T'.setTop { g with pc := g.pc + 3, stack := v.toList ++ rest })) : Gl p e below Rr (T.setTop g) := by
  obtain ⟨v, vm₁, ⟨T', L', c', n'⟩, -, X', ⟨L, hQ, q1, q2, q3⟩, st⟩ := Jvm.LawKit.callS X hx (y := y) hown (mvT hZ w1) (mvT hZ w2) (mvT hZ w3) (mvT hZ w4) hy (backOf (W := W) hC hZ w4 w3 hf hl) hg hsize hlen hstack hW hd (fun _ _ => ⟨has, eT, hc, hs⟩)
  dsimp only [Pt.U, Pt.locs, Pt.cells, Pt.slots] at X' q1 q2 q3 st hQ
  subst q1 q2 q3
  exact Gl.st st (k v T' L X' hQ)
theorem gCallI (X : Stand p l e R s m args below meth c T locs cells slots) (hx : p.tables.exec = Jvm.exec) (hZ : Z.Warmed39 s.vm) {own : String} {index : Nat} {y : MethodName} {bytes : ByteArray} {maxL : Nat} (hy1 : y.name = "<init>") (hown : s.vm.findClass own = some m.cls)
    (w1 : (Cond.methodLink own index y).before a0 Z = true) (w2 : (Cond.instanceMethod y).before a0 Z = true) (w3 : (Cond.initialized y.cls).before a0 Z = true) (w4 : (Cond.code y bytes maxL none).before a0 Z = true) (hy : y.cls ≠ "java/lang/invoke/MethodHandle" ∧ y.cls ≠ "java/lang/invoke/VarHandle")
    {rm : Room} {as' : Array Value} {QQ : Option Value → Heap → List Loc → Prop} (hC : Con [] l Z y bytes maxL none rm as' h QQ) (eT : T.heap = h) (hf : rm.frames + 1 ≤ R.frames) {W : Nat} (hl : W + (maxL + 11) + rm.locals ≤ R.locals) (hc : cells + rm.cells ≤ R.cells) (hs : slots + rm.slots ≤ R.slots)
    {g : JFrame} (hg : g.method = m) (hsize : g.locals.size = c.maxLocals) {a : Addr} {argsL rest : List Value} (hlen : ∀ sig, parseMethodDescriptor y.desc = some sig → argsL.length = sig.parameters.length) (hstack : g.stack = argsL.reverse ++ .ref a :: rest) (has : (.ref a :: argsL).toArray = as') (hW : 2 * g.monitorRoom + (rest.map fun v => v.category).sum ≤ W) (hd : decode c.code g.pc = .ok (.invokespecial index, 3))
    {Rr : State → Outcome → Prop} (k : ∀ (v : Option Value) (T' : State) (L : List Loc), Stand p l e R s m args below meth c T' (locs ++ L) (cells + rm.cells) (slots + rm.slots) → QQ v T'.heap L → Gl p e below Rr (T'.setTop { g with pc := g.pc + 3, stack := v.toList ++ rest })) : Gl p e below Rr (T.setTop g) := by
  obtain ⟨v, vm₁, ⟨T', L', c', n'⟩, -, X', ⟨L, hQ, q1, q2, q3⟩, st⟩ := X.specialBack hx (y := y) hy1 hown (mvT hZ w1) (mvT hZ w2) (mvT hZ w4) hy (backOf (W := W) hC hZ w4 w3 hf hl) hg hsize (Steps.refl _) hlen hstack hW hd (fun _ _ => ⟨has, eT, hc, hs⟩)
  dsimp only [Pt.U, Pt.locs, Pt.cells, Pt.slots] at X' q1 q2 q3 st hQ
  subst q1 q2 q3
  exact Gl.st (fun _ kk => st.trans kk) (k v T' L X' hQ)
/-- a constructor, paid by a Back of the shape that backOf and the pasted String laws have -/
theorem gBackI (X : Stand p l e R s m args below meth c T locs cells slots) (hx : p.tables.exec = Jvm.exec) (hZ : Z.Warmed39 s.vm) {own : String} {index : Nat} {y : MethodName} {bytes : ByteArray} {maxL : Nat} (hy1 : y.name = "<init>") (hown : s.vm.findClass own = some m.cls)
    (w1 : (Cond.methodLink own index y).before a0 Z = true) (w2 : (Cond.instanceMethod y).before a0 Z = true) (w4 : (Cond.code y bytes maxL none).before a0 Z = true) (hy : y.cls ≠ "java/lang/invoke/MethodHandle" ∧ y.cls ≠ "java/lang/invoke/VarHandle")
    {kc ks W : Nat} {as' : Array Value} {QQ : Option Value → Heap → List Loc → Prop} (hK : Back l R p e below s args y 3 W (fun A a => a = as' ∧ A.U.heap = h ∧ A.cells + kc ≤ R.cells ∧ A.slots + ks ≤ R.slots) (fun A _ v B => ∃ L, QQ v B.U.heap L ∧ B.locs = A.locs ++ L ∧ B.cells = A.cells + kc ∧ B.slots = A.slots + ks)) (eT : T.heap = h) (hc : cells + kc ≤ R.cells) (hs : slots + ks ≤ R.slots)
    {g : JFrame} (hg : g.method = m) (hsize : g.locals.size = c.maxLocals) {a : Addr} {argsL rest : List Value} (hlen : ∀ sig, parseMethodDescriptor y.desc = some sig → argsL.length = sig.parameters.length) (hstack : g.stack = argsL.reverse ++ .ref a :: rest) (has : (.ref a :: argsL).toArray = as') (hW : 2 * g.monitorRoom + (rest.map fun v => v.category).sum ≤ W) (hd : decode c.code g.pc = .ok (.invokespecial index, 3))
    {Rr : State → Outcome → Prop} (k : ∀ (v : Option Value) (T' : State) (L : List Loc), Stand p l e R s m args below meth c T' (locs ++ L) (cells + kc) (slots + ks) → QQ v T'.heap L → Gl p e below Rr (T'.setTop { g with pc := g.pc + 3, stack := v.toList ++ rest })) : Gl p e below Rr (T.setTop g) := by
  obtain ⟨v, vm₁, ⟨T', L', c', n'⟩, -, X', ⟨L, hQ, q1, q2, q3⟩, st⟩ := X.specialBack hx (y := y) hy1 hown (mvT hZ w1) (mvT hZ w2) (mvT hZ w4) hy hK hg hsize (Steps.refl _) hlen hstack hW hd (fun _ _ => ⟨has, eT, hc, hs⟩)
  dsimp only [Pt.U, Pt.locs, Pt.cells, Pt.slots] at X' q1 q2 q3 st hQ
  subst q1 q2 q3
  exact Gl.st (fun _ kk => st.trans kk) (k v T' L X' hQ)
/-- the class of y is no interface: some call lands in a method of hers -/
theorem own_nf {s : State} {args : Array Value} {y x' z' : MethodName} {C' : String} (w : (Cond.selects C' x' z').before args s = true) (hc : z'.cls = y.cls) : NotFace s y := fun r0 h0 => by
  obtain ⟨c2, r2, m2, -, -, q3, -, kP, hkP, hkPi⟩ := Cond.selects_spec w
  have h1 := findClass_of_methodNamed h0
  have h2 := findClass_of_methodNamed q3
  rw [hc] at h2
  have q := Option.some.inj (h1.symm.trans h2)
  exact ⟨kP, by rw [q]; exact hkP, hkPi⟩
theorem gCallV (X : Stand p l e R s m args below meth c T locs cells slots) (hx : p.tables.exec = Jvm.exec) (hZ : Z.Warmed39 s.vm) {own C : String} {index : Nat} {y z : MethodName} {bytes : ByteArray} {maxL : Nat} {ret : Option FieldType} (hown : s.vm.findClass own = some m.cls)
    (w1 : (Cond.methodLink own index y).before a0 Z = true) (w2 : (Cond.declares y).before a0 Z = true) (w3 : (Cond.selects C y z).before a0 Z = true) (hnf : NotFace s y) (w4 : (Cond.instanceMethod z).before a0 Z = true) (w5 : (Cond.initialized z.cls).before a0 Z = true) (w6 : (Cond.code z bytes maxL ret).before a0 Z = true) (hy : y.cls ≠ "java/lang/invoke/MethodHandle" ∧ y.cls ≠ "java/lang/invoke/VarHandle")
    {rm : Room} {as' : Array Value} {QQ : Option Value → Heap → List Loc → Prop} (hC : Con [] l Z z bytes maxL ret rm as' h QQ) (eT : T.heap = h) {a : Addr} (E : Exa Z h a C) (hf : rm.frames + 1 ≤ R.frames) {W : Nat} (hl : W + (maxL + 11) + rm.locals ≤ R.locals) (hc : cells + rm.cells ≤ R.cells) (hs : slots + rm.slots ≤ R.slots)
    {g : JFrame} (hg : g.method = m) (hsize : g.locals.size = c.maxLocals) {argsL rest : List Value} (hlen : ∀ sig, parseMethodDescriptor y.desc = some sig → argsL.length = sig.parameters.length) (hstack : g.stack = argsL.reverse ++ .ref a :: rest) (has : (.ref a :: argsL).toArray = as') (hW : 2 * g.monitorRoom + (rest.map fun v => v.category).sum ≤ W) (hd : decode c.code g.pc = .ok (.invokevirtual index, 3))
    {Rr : State → Outcome → Prop} (k : ∀ (v : Option Value) (T' : State) (L : List Loc), Stand p l e R s m args below meth c T' (locs ++ L) (cells + rm.cells) (slots + rm.slots) → QQ v T'.heap L → Gl p e below Rr (T'.setTop { g with pc := g.pc + 3, stack := v.toList ++ rest })) : Gl p e below Rr (T.setTop g) := by
  obtain ⟨cq, kq, q34a, q34b, q34c⟩ := isOf hZ eT E
  obtain ⟨v, vm₁, ⟨T', L', c', n'⟩, -, X', ⟨L, hQ, q1, q2, q3⟩, st⟩ := X.virtualBack hx (y := y) (z := z) hown (mvT hZ w1) (mvT hZ w2) hnf (mvT hZ w3) (mvT hZ w4) hy (backOf (W := W) hC hZ w6 w5 hf hl) q34a q34c hg hsize (Steps.refl _) hlen hstack hW hd (fun _ _ => ⟨has, eT, hc, hs⟩)
  dsimp only [Pt.U, Pt.locs, Pt.cells, Pt.slots] at X' q1 q2 q3 st hQ
  subst q1 q2 q3
  exact Gl.st (fun _ kk => st.trans kk) (k v T' L X' hQ)
theorem gCallU (X : Stand p l e R s m args below meth c T locs cells slots) (hx : p.tables.exec = Jvm.exec) (hZ : Z.Warmed39 s.vm) {own C owner : String} {index : Nat} {y z : MethodName} {bytes : ByteArray} {maxL : Nat} {ret : Option FieldType} (hown : s.vm.findClass own = some m.cls)
    (w1 : (Cond.methodLink own index y).before a0 Z = true) (w0 : (Cond.sameMethod y.cls owner y.name y.desc).before a0 Z = true) (w2 : (Cond.declares ⟨owner, y.name, y.desc⟩).before a0 Z = true) (w3 : (Cond.selects C y z).before a0 Z = true) (w4 : (Cond.instanceMethod z).before a0 Z = true) (w5 : (Cond.initialized z.cls).before a0 Z = true) (w6 : (Cond.code z bytes maxL ret).before a0 Z = true) (hy : owner ≠ "java/lang/invoke/MethodHandle" ∧ owner ≠ "java/lang/invoke/VarHandle")
    {rm : Room} {as' : Array Value} {QQ : Option Value → Heap → List Loc → Prop} (hC : Con [] l Z z bytes maxL ret rm as' h QQ) (eT : T.heap = h) {a : Addr} (E : Exa Z h a C) (hf : rm.frames + 1 ≤ R.frames) {W : Nat} (hl : W + (maxL + 11) + rm.locals ≤ R.locals) (hc : cells + rm.cells ≤ R.cells) (hs : slots + rm.slots ≤ R.slots)
    {g : JFrame} (hg : g.method = m) (hsize : g.locals.size = c.maxLocals) {argsL rest : List Value} (hlen : ∀ sig, parseMethodDescriptor y.desc = some sig → argsL.length = sig.parameters.length) (hstack : g.stack = argsL.reverse ++ .ref a :: rest) (has : (.ref a :: argsL).toArray = as') (hW : 2 * g.monitorRoom + (rest.map fun v => v.category).sum ≤ W) (hd : decode c.code g.pc = .ok (.invokevirtual index, 3))
    {Rr : State → Outcome → Prop} (k : ∀ (v : Option Value) (T' : State) (L : List Loc), Stand p l e R s m args below meth c T' (locs ++ L) (cells + rm.cells) (slots + rm.slots) → QQ v T'.heap L → Gl p e below Rr (T'.setTop { g with pc := g.pc + 3, stack := v.toList ++ rest })) : Gl p e below Rr (T.setTop g) := by
  obtain ⟨cq, kq, q34a, q34b, q34c⟩ := isOf hZ eT E
  obtain ⟨v, vm₁, ⟨T', L', c', n'⟩, -, X', ⟨L, hQ, q1, q2, q3⟩, st⟩ := X.virtualBackUp hx (x := y) (y := z) hown (mvT hZ w1) (mvT hZ w0) (mvT hZ w2) hy (mvT hZ w3) (mvT hZ w4) (backOf (W := W) hC hZ w6 w5 hf hl) q34a q34c hg hsize (Steps.refl _) hlen hstack hW hd (fun _ _ => ⟨has, eT, hc, hs⟩)
  dsimp only [Pt.U, Pt.locs, Pt.cells, Pt.slots] at X' q1 q2 q3 st hQ
  subst q1 q2 q3
  exact Gl.st (fun _ kk => st.trans kk) (k v T' L X' hQ)
/-- C is no K: the chain of superclasses doesn't meet it; K by her word 'instantiable' -/
theorem own_NS_root {O K : String} {n : Nat} (w : (Cond.noSuperclass O).before a0 Z = true) (wk : (Cond.instantiable K n).before a0 Z = true) (hn : O ≠ K) : NS Z O K := by
  obtain ⟨c, k, h1, h2, h3, -, -⟩ := Cond.noSuperclass_spec w
  obtain ⟨t, kt, g1, -⟩ := Cond.instantiable_spec wk
  have ne := ids_ne h1 g1 hn
  refine ⟨c, t, h1, g1, fun fuel => ?_⟩
  cases fuel with
  | zero => rfl
  | succ f => simp [Vm.isSubclassAux, ne, h2, h3]
theorem own_NS_no {C S K : String} {n : Nat} (w : (Cond.superclass C S).before a0 Z = true) (wk : (Cond.instantiable K n).before a0 Z = true) (N : NS Z C K) (hn : C ≠ K) : ∃ c t, Z.vm.findClass C = some c ∧ Z.vm.findClass K = some t ∧ Z.vm.assignable c t = false := by
  obtain ⟨c, t, h0, g0, n3⟩ := N
  obtain ⟨pp, k, kp, h1, h2, h3, h4, h5, -, h7⟩ := Cond.superclass_spec h0 w
  obtain ⟨t', kt, g1, g2, g3, g4, -⟩ := Cond.instantiable_spec wk
  cases g0.symm.trans g1
  have gi : kt.isInterface = false := by
    rcases Bool.or_eq_false_iff.mp g4 with ⟨q, -⟩
    exact q
  have ne := ids_ne h0 g0 hn
  refine ⟨c, t, h0, g0, ?_⟩
  show Z.vm.assignableAux (255 + 1) c t = false
  simp [Vm.assignableAux, ne, h2, g2, h5, g3, gi, Vm.isSubclass, n3]
theorem own_gcls (X : Stand p l e R s m args below meth c T locs cells slots) (hx : p.tables.exec = Jvm.exec) (hZ : Z.Warmed39 s.vm) {own C : String} {index : Nat} (hown : s.vm.findClass own = some m.cls)
    (w1 : (Cond.methodLink own index ⟨"java/lang/Object", "getClass", "()Ljava/lang/Class;"⟩).before a0 Z = true) (w2 : (Cond.declares ⟨"java/lang/Object", "getClass", "()Ljava/lang/Class;"⟩).before a0 Z = true) (w3 : (Cond.noSuperclass "java/lang/Object").before a0 Z = true) (w4 : (Cond.selects C ⟨"java/lang/Object", "getClass", "()Ljava/lang/Class;"⟩ ⟨"java/lang/Object", "getClass", "()Ljava/lang/Class;"⟩).before a0 Z = true)
    (w5 : (Cond.instanceMethod ⟨"java/lang/Object", "getClass", "()Ljava/lang/Class;"⟩).before a0 Z = true) (w6 : (Cond.native ⟨"java/lang/Object", "getClass", "()Ljava/lang/Class;"⟩).before a0 Z = true) (eT : T.heap = h) {a : Addr} (E : Exa Z h a C) {mr : Addr} {cc : ClassId} {kc : Class} (m1 : Z.vm.findClass C = some cc) (m2 : Z.vm.classes[cc]? = some kc) (m3 : kc.mirror = some mr)
    {g : JFrame} (hg : g.method = m) (hsize : g.locals.size = c.maxLocals) {rest : List Value} (hs : g.stack = .ref a :: rest) (hd : decode c.code g.pc = .ok (.invokevirtual index, 3)) (hf : 1 ≤ R.frames) {W : Nat} (hW : 2 * g.monitorRoom + (rest.map fun v => v.category).sum ≤ W) (hl : W + (nativeFrameWords "java/lang/Object" "getClass" 1 + 11) ≤ R.locals) :
    ∃ T', Stand p l e R s m args below meth c T' locs cells slots ∧ T'.heap = h ∧ ∀ target, Steps p.tables e below (T'.setTop { g with pc := g.pc + 3, stack := .ref mr :: rest }) target → Steps p.tables e below (T.setTop g) target := by
  obtain ⟨cB, kB, i1, i2, i3⟩ := isOf hZ eT E
  have i1' := i1
  rw [hZ.alike.findClass] at i1'
  cases i1'.symm.trans m1
  obtain ⟨k', q, ek⟩ := hZ.alike.2.2 _ _ m2
  obtain ⟨vm', X', st⟩ := X.getClassOf hx hown (mvT hZ w1) (mvT hZ w2) (nf_top (args := #[]) (mvT hZ w3)) (mvT hZ w4) (mvT hZ w5) (mvT hZ w6) i1 i3 q (by rw [ek]; exact m3) hg hsize hs hd hf (by omega)
  exact ⟨_, X', eT, st⟩
theorem own_and255 (x : Int32) : ¬ x &&& 255 < 0 ∧ ¬ (255 : Int32) < x &&& 255 := by
  have h := c_and x 255 (by decide)
  rw [show (255 : Int32).toInt = 255 from rfl] at h
  simp only [Int32.lt_iff_toInt_lt, show (255 : Int32).toInt = 255 from rfl, show (0 : Int32).toInt = 0 from rfl]
  omega
theorem own_len {t : Term} {cl : Cell} {ty : FieldType} {a : Addr} {n : Int32} {aa : Array Value} (ev : t.eval aa Z none [] Z = some (.ref a)) (A : Arr Z Z.heap a cl ty) (hh : (Term.length t).eval aa Z none [] Z = some (.int n)) : cl.slots.size < 2 ^ 31 ∧ cl.slots.size.toInt32 = n := by
  have q := A.fin (Vm.Alike.refl _)
  by_cases z : cl.slots.size < 2 ^ 31
  · rw [len_f ev q z] at hh
    exact ⟨z, Value.int.inj (Option.some.inj hh)⟩
  · simp [Term.eval, ev, q, z] at hh
end OwnKit
end Jvm.RoadKit

/- laws to paste: Road.backV (cut by pick.py; bodies as the Statement names them) -/
namespace Jvm.Pilot.@@N@@
namespace StrChars
open Jvm Sem ClassFile Op Lib Jvm.Stand Jvm.Free.XT Jvm.Free.ALB Jvm.Free.JM Jvm.Free
open Jvm.Lib.Cold (StaticIs)
/-- a char array whose places are chars -/
def Ch (a : Addr) (A : Cell) (U : State) : Prop := Arr .char a A U ∧ Typed .char A
theorem Ch.mv {a : Addr} {A : Cell} {U U' : State} (h : Ch a A U) (hal : U.vm.Alike U'.vm) (hh : U'.heap = U.heap) : Ch a A U' := ⟨h.1.mv hal hh, h.2⟩
theorem Ch.keep {a : Addr} {A : Cell} {U U' : State} (h : Ch a A U) (hal : U.vm.Alike U'.vm) (hk : U'.heap[a]? = some A) : Ch a A U' := ⟨h.1.keep hal hk, h.2⟩
/-- what place i of a char[]'s cell holds -/
def cv (A : Cell) (i : Nat) : Int32 := match A.slots[i]? with | some (.int x) => x | _ => 0
theorem Ch.get {a : Addr} {A : Cell} {U : State} (h : Ch a A U) {i : Nat} (hi : i < A.slots.size) : A.slots[i]? = some (.int (cv A i)) := by
  have e := Array.getElem?_eq_getElem hi
  have f := h.2 i _ e
  unfold cv; rw [e]
  generalize A.slots[i] = v at f
  cases v <;> simp [fits] at f ⊢
/-- the byte that i2b leaves of a char -/
def lo8 (x : Int32) : Int32 := x.toInt8.toInt32
theorem fits_lo8 (y : Int32) : fits .byte (.int (lo8 y)) = true := by
  have h1 := y.toInt8.le_toInt
  have h2 := y.toInt8.toInt_lt
  simp only [lo8, fits, Bool.and_eq_true, decide_eq_true_eq, Int32.le_iff_toInt_le, Int8.toInt_toInt32, show (-128 : Int32).toInt = -128 from by decide, show (127 : Int32).toInt = 127 from by decide]
  omega
/-- A' is A but that each place j of lo .. hi - 1 holds f j -/
def Laid (A A' : Cell) (lo hi : Nat) (f : Nat → Value) : Prop := A'.cls = A.cls ∧ A'.vm = A.vm ∧ A'.slots.size = A.slots.size ∧ ∀ i, A'.slots[i]? = if lo ≤ i ∧ i < hi then some (f i) else A.slots[i]?
theorem Laid.zero (A : Cell) (lo : Nat) (f : Nat → Value) : Laid A A lo (lo + 0) f := ⟨rfl, rfl, rfl, fun i => by rw [if_neg (by omega)]⟩
theorem Laid.step {A Ak : Cell} {lo k : Nat} {f : Nat → Value} {v : Value} (h : Laid A Ak lo k f) (hlo : lo ≤ k) (hk : k < Ak.slots.size) (hv : v = f k) : Laid A (Ak.setSlot k v) lo (k + 1) f := by
  refine ⟨h.1, h.2.1, by simpa [Cell.setSlot] using h.2.2.1, fun i => ?_⟩
  by_cases e : k = i
  · subst e; rw [Cell.slots_setSlot_self v hk, if_pos (by omega), hv]
  · rw [Cell.slots_setSlot_ne v e, h.2.2.2 i]
    by_cases q : lo ≤ i ∧ i < k
    · rw [if_pos q, if_pos (by omega)]
    · rw [if_neg q, if_neg (by omega)]
def U16 : String := "java/lang/StringUTF16"
namespace Cmp5
def yN : MethodName := ⟨"java/lang/StringUTF16", "compress", "([CI[BII)I"⟩
abbrev yB : ByteArray := jdk_52_method_21_code
theorem d0 : decode yB 0 = .ok (.iconst 0, 1) := by decide +kernel
theorem d1 : decode yB 1 = .ok (.istore 5, 2) := by decide +kernel
theorem d3 : decode yB 3 = .ok (.iload 5, 2) := by decide +kernel
theorem d5 : decode yB 5 = .ok (.iload 4, 2) := by decide +kernel
theorem d7 : decode yB 7 = .ok (.if_icmp (.ge) 37, 3) := by decide +kernel
theorem d10 : decode yB 10 = .ok (.aload_n 0, 1) := by decide +kernel
theorem d11 : decode yB 11 = .ok (.iload_n 1, 1) := by decide +kernel
theorem d12 : decode yB 12 = .ok (.caload, 1) := by decide +kernel
theorem d13 : decode yB 13 = .ok (.istore 6, 2) := by decide +kernel
theorem d15 : decode yB 15 = .ok (.iload 6, 2) := by decide +kernel
theorem d17 : decode yB 17 = .ok (.sipush 255, 3) := by decide +kernel
theorem d20 : decode yB 20 = .ok (.if_icmp (.le) 6, 3) := by decide +kernel
theorem d26 : decode yB 26 = .ok (.aload_n 2, 1) := by decide +kernel
theorem d27 : decode yB 27 = .ok (.iload_n 3, 1) := by decide +kernel
theorem d28 : decode yB 28 = .ok (.iload 6, 2) := by decide +kernel
theorem d30 : decode yB 30 = .ok (.i2b, 1) := by decide +kernel
theorem d31 : decode yB 31 = .ok (.bastore, 1) := by decide +kernel
theorem d32 : decode yB 32 = .ok (.iinc 1 1, 3) := by decide +kernel
theorem d35 : decode yB 35 = .ok (.iinc 3 1, 3) := by decide +kernel
theorem d38 : decode yB 38 = .ok (.iinc 5 1, 3) := by decide +kernel
theorem d41 : decode yB 41 = .ok (.goto (-38), 3) := by decide +kernel
theorem d44 : decode yB 44 = .ok (.iload 4, 2) := by decide +kernel
theorem d46 : decode yB 46 = .ok (.ireturn, 1) := by decide +kernel
def site : List Cond := []
def tab : Cond := tabOf yN yB 7 (some .int) site
def P (b : Addr) (A : Cell) (d : Addr) (B : Cell) (o q len : Nat) (args : Array Value) (s : State) : Prop := args = #[.ref b, .int (Int32.ofNat o), .ref d, .int (Int32.ofNat q), .int (Int32.ofNat len)] ∧ Ch b A s ∧ Arr .byte d B s ∧ b ≠ d ∧ o + len ≤ A.slots.size ∧ q + len ≤ B.slots.size ∧ ∀ i, i < len → ¬ 255 < cv A (o + i)
def E (b : Addr) (A : Cell) (d : Addr) (B : Cell) (o q len : Nat) (r : Option Value) (s u : State) : Prop := r = some (.int (Int32.ofNat len)) ∧ ∃ B', Put d B' s u ∧ Laid B B' q (q + len) (fun j => Value.int (lo8 (cv A (o + (j - q)))))
/-- no char of the range above 255: len; the places written hold each char's low byte -/
theorem law (l : Launch) (b : Addr) (A : Cell) (d : Addr) (B : Cell) (o q len : Nat) : Law l yN 5 5 0 0 yB 7 (some .int) site (P b A d B o q len) (E b A d B o q len) (copyLocs d q len) 0 0 := by
  refine Law.of_walk (plainFor_of_name (by decide +kernel)) (by decide +kernel) (by decide +kernel) (by decide) (fun _ _ h => by rw [h.1]; rfl) (fun _ U U' hal hh h => ⟨h.1, h.2.1.mv hal hh, h.2.2.1.mv hal hh, h.2.2.2⟩) (fun r U U' V V' h1 hal h2 h => ⟨h.1, h.2.elim fun B' q => ⟨B', q.1.mv h1 h2, q.2⟩⟩) ?_
  intro p e s m args below meth c s₁ X0 hexec hbytes hml hret hlk hnm hown hh0 W hP
  obtain ⟨rfl, hA, hB, hne, l1, l2, hp⟩ := hP
  have c1 : Steps p.tables e below (s₁.setTop (entryFrame m #[.ref b, .int (Int32.ofNat o), .ref d, .int (Int32.ofNat q), .int (Int32.ofNat len)] 7)) (s₁.setTop (mkF m 0 #[.val (.ref b), .val (.int (Int32.ofNat o)), .val (.ref d), .val (.int (Int32.ofNat q)), .val (.int (Int32.ofNat len)), .unset, .unset] [])) := entry rfl
  have hA0 := hA.1.mv X0.warmed.alike hh0
  have hB0 := hB.mv X0.warmed.alike hh0
  have a31 := hA.1.2.2.2
  have c2 : Steps p.tables e below (s₁.setTop (entryFrame m #[.ref b, .int (Int32.ofNat o), .ref d, .int (Int32.ofNat q), .int (Int32.ofNat len)] 7)) (s₁.setTop (mkF m 3 #[.val (.ref b), .val (.int (Int32.ofNat o)), .val (.ref d), .val (.int (Int32.ofNat q)), .val (.int (Int32.ofNat len)), .val (.int 0), .unset] [])) := c1.trans (by
    refine iconstV X0.here hexec rfl 0 (hb hbytes d0) (by decide) ?_
    refine XS.istore X0.here hexec rfl (hb hbytes d1) rfl rfl ?_
    exact Steps.refl _)
  have loop : ∀ (r i : Nat), i + r = len → ∀ (z : Slot), (z = .unset ∨ ∃ w, z = .val w ∧ w.category = 1) → ∀ (Tl : State) (Bk : Cell), Stand p l e { frames := 0, locals := 0, cells := 0, slots := 0 } s m #[.ref b, .int (Int32.ofNat o), .ref d, .int (Int32.ofNat q), .int (Int32.ofNat len)] below meth c Tl ([] ++ copyLocs d q i) 0 0 → Put d Bk s₁ Tl → Laid B Bk q (q + i) (fun j => Value.int (lo8 (cv A (o + (j - q))))) →
      Steps p.tables e below (s₁.setTop (entryFrame m #[.ref b, .int (Int32.ofNat o), .ref d, .int (Int32.ofNat q), .int (Int32.ofNat len)] 7)) (Tl.setTop (mkF m 3 #[.val (.ref b), .val (.int (Int32.ofNat (o + i))), .val (.ref d), .val (.int (Int32.ofNat (q + i))), .val (.int (Int32.ofNat len)), .val (.int (Int32.ofNat i)), z] [])) → ∃ (T' : State) (B' : Cell) (z' : Slot), Stand p l e { frames := 0, locals := 0, cells := 0, slots := 0 } s m #[.ref b, .int (Int32.ofNat o), .ref d, .int (Int32.ofNat q), .int (Int32.ofNat len)] below meth c T' ([] ++ copyLocs d q len) 0 0 ∧ Put d B' s₁ T' ∧ Laid B B' q (q + len) (fun j => Value.int (lo8 (cv A (o + (j - q))))) ∧
      Steps p.tables e below (s₁.setTop (entryFrame m #[.ref b, .int (Int32.ofNat o), .ref d, .int (Int32.ofNat q), .int (Int32.ofNat len)] 7)) (T'.setTop (mkF m 3 #[.val (.ref b), .val (.int (Int32.ofNat (o + len))), .val (.ref d), .val (.int (Int32.ofNat (q + len))), .val (.int (Int32.ofNat len)), .val (.int (Int32.ofNat len)), z'] [])) := by
    intro r
    induction r with
    | zero =>
      intro i hi z hz Tl Bk Xl pl fl cl
      have hil : i = len := by omega
      rw [hil] at Xl fl cl
      exact ⟨Tl, Bk, z, Xl, pl, fl, cl⟩
    | succ r ih =>
      intro i hi z hz Tl Bk Xl pl fl cl
      have all := X0.warmed.alike.symm.trans Xl.warmed.alike
      have hAl := hA0.keep all (pl.other hne hA0.1)
      have hBk := hB0.like all pl.1 fl.1 fl.2.1 fl.2.2.1
      have hlt : q + i < Bk.slots.size := by rw [fl.2.2.1]; omega
      have c3 : Steps p.tables e below (s₁.setTop (entryFrame m #[.ref b, .int (Int32.ofNat o), .ref d, .int (Int32.ofNat q), .int (Int32.ofNat len)] 7)) (Tl.setTop (mkF m 12 #[.val (.ref b), .val (.int (Int32.ofNat (o + i))), .val (.ref d), .val (.int (Int32.ofNat (q + i))), .val (.int (Int32.ofNat len)), .val (.int (Int32.ofNat i)), z] [.int (Int32.ofNat (o + i)), .ref b])) := cl.trans (by
        refine XS.iload Xl.here hexec rfl (hb hbytes d3) rfl ?_
        refine XS.iload Xl.here hexec rfl (hb hbytes d5) rfl ?_
        refine XS.icmpNo Xl.here hexec rfl (hb hbytes d7) rfl (ii_ge_f (lt32 (by omega) (by omega))) ?_
        refine XS.aloadN Xl.here hexec rfl (hb hbytes d10) rfl rfl ?_
        refine XS.iloadN Xl.here hexec rfl (hb hbytes d11) rfl ?_
        exact Steps.refl _)
      have c4 : Steps p.tables e below (s₁.setTop (entryFrame m #[.ref b, .int (Int32.ofNat o), .ref d, .int (Int32.ofNat q), .int (Int32.ofNat len)] 7)) (Tl.setTop (mkF m 13 #[.val (.ref b), .val (.int (Int32.ofNat (o + i))), .val (.ref d), .val (.int (Int32.ofNat (q + i))), .val (.int (Int32.ofNat len)), .val (.int (Int32.ofNat i)), z] [.int (cv A (o + i))])) := c3.trans (by
        refine Xl.aget hexec hAl rfl (hA.get (i := o + i) (by omega)) rfl rfl (hb hbytes d12) ?_
        exact Steps.refl _)
      have c5 : Steps p.tables e below (s₁.setTop (entryFrame m #[.ref b, .int (Int32.ofNat o), .ref d, .int (Int32.ofNat q), .int (Int32.ofNat len)] 7)) (Tl.setTop (mkF m 15 #[.val (.ref b), .val (.int (Int32.ofNat (o + i))), .val (.ref d), .val (.int (Int32.ofNat (q + i))), .val (.int (Int32.ofNat len)), .val (.int (Int32.ofNat i)), .val (.int (cv A (o + i)))] [])) := c4.trans (by
        refine XS.istoreS Xl.here hexec rfl (hb hbytes d13) rfl rfl hz ?_
        exact Steps.refl _)
      have c6 : Steps p.tables e below (s₁.setTop (entryFrame m #[.ref b, .int (Int32.ofNat o), .ref d, .int (Int32.ofNat q), .int (Int32.ofNat len)] 7)) (Tl.setTop (mkF m 31 #[.val (.ref b), .val (.int (Int32.ofNat (o + i))), .val (.ref d), .val (.int (Int32.ofNat (q + i))), .val (.int (Int32.ofNat len)), .val (.int (Int32.ofNat i)), .val (.int (cv A (o + i)))] [.int (lo8 (cv A (o + i))), .int (Int32.ofNat (q + i)), .ref d])) := c5.trans (by
        refine XS.iload Xl.here hexec rfl (hb hbytes d15) rfl ?_
        refine sipushV Xl.here hexec rfl 255 (hb hbytes d17) (by decide) ?_
        refine XS.icmpYes Xl.here hexec rfl (pc0 := 20) rfl (hb hbytes d20) rfl (ii_le_t (hp i (by omega))) (by decide) rfl ?_
        refine XS.aloadN Xl.here hexec rfl (hb hbytes d26) rfl rfl ?_
        refine XS.iloadN Xl.here hexec rfl (hb hbytes d27) rfl ?_
        refine XS.iload Xl.here hexec rfl (hb hbytes d28) rfl ?_
        refine i2b Xl.here hexec rfl (hb hbytes d30) rfl ?_
        exact Steps.refl _)
      obtain ⟨T7, X7, p7, st7⟩ := Xl.aput hexec hBk rfl hlt rfl (fits_lo8 (cv A (o + i))) (g := (mkF m 31 #[.val (.ref b), .val (.int (Int32.ofNat (o + i))), .val (.ref d), .val (.int (Int32.ofNat (q + i))), .val (.int (Int32.ofNat len)), .val (.int (Int32.ofNat i)), .val (.int (cv A (o + i)))] [.int (lo8 (cv A (o + i))), .int (Int32.ofNat (q + i)), .ref d])) rfl (rest := []) rfl (hb hbytes d31)
      have c8 : Steps p.tables e below (s₁.setTop (entryFrame m #[.ref b, .int (Int32.ofNat o), .ref d, .int (Int32.ofNat q), .int (Int32.ofNat len)] 7)) (T7.setTop (mkF m 32 #[.val (.ref b), .val (.int (Int32.ofNat (o + i))), .val (.ref d), .val (.int (Int32.ofNat (q + i))), .val (.int (Int32.ofNat len)), .val (.int (Int32.ofNat i)), .val (.int (cv A (o + i)))] [])) := c6.trans (st7 _ (Steps.refl _))
      have c9 : Steps p.tables e below (s₁.setTop (entryFrame m #[.ref b, .int (Int32.ofNat o), .ref d, .int (Int32.ofNat q), .int (Int32.ofNat len)] 7)) (T7.setTop (mkF m 3 #[.val (.ref b), .val (.int (Int32.ofNat (o + i) + 1)), .val (.ref d), .val (.int (Int32.ofNat (q + i) + 1)), .val (.int (Int32.ofNat len)), .val (.int (Int32.ofNat i + 1)), .val (.int (cv A (o + i)))] [])) := c8.trans (by
        refine iincV X7.here hexec rfl 1 (hb hbytes d32) (by decide) rfl rfl ?_
        refine iincV X7.here hexec rfl 1 (hb hbytes d35) (by decide) rfl rfl ?_
        refine iincV X7.here hexec rfl 1 (hb hbytes d38) (by decide) rfl rfl ?_
        refine XS.goto X7.here hexec rfl (pc0 := 41) rfl (hb hbytes d41) (by decide) rfl ?_
        exact Steps.refl _)
      have c10 : Steps p.tables e below (s₁.setTop (entryFrame m #[.ref b, .int (Int32.ofNat o), .ref d, .int (Int32.ofNat q), .int (Int32.ofNat len)] 7)) (T7.setTop (mkF m 3 #[.val (.ref b), .val (.int (Int32.ofNat (o + (i + 1)))), .val (.ref d), .val (.int (Int32.ofNat (q + (i + 1)))), .val (.int (Int32.ofNat len)), .val (.int (Int32.ofNat (i + 1))), .val (.int (cv A (o + i)))] [])) := by
        have := c9
        rw [succ32, succ32, succ32] at this
        exact this
      exact ih (i + 1) (by omega) _ (Or.inr ⟨_, rfl, rfl⟩) T7 _ (by rw [copyLocs_step, ← List.append_assoc]; exact X7) (pl.trans p7) (fl.step (by omega) hlt (by simp)) c10
  obtain ⟨T9, B9, z9, X9, p9, f9, g9⟩ := loop len 0 (by omega) .unset (Or.inl rfl) s₁ B (by simpa [copyLocs] using X0) ⟨hB0.1, fun _ _ => rfl, rfl⟩ (Laid.zero _ _ _) c2
  have c11 : Steps p.tables e below (s₁.setTop (entryFrame m #[.ref b, .int (Int32.ofNat o), .ref d, .int (Int32.ofNat q), .int (Int32.ofNat len)] 7)) (T9.setTop (mkF m 46 #[.val (.ref b), .val (.int (Int32.ofNat (o + len))), .val (.ref d), .val (.int (Int32.ofNat (q + len))), .val (.int (Int32.ofNat len)), .val (.int (Int32.ofNat len)), z9] [.int (Int32.ofNat len)])) := g9.trans (by
    refine XS.iload X9.here hexec rfl (hb hbytes d3) rfl ?_
    refine XS.iload X9.here hexec rfl (hb hbytes d5) rfl ?_
    refine XS.icmpYes X9.here hexec rfl (pc0 := 7) rfl (hb hbytes d7) rfl (ii_ge_t (nlt32 (by omega) (Nat.le_refl _))) (by decide) rfl ?_
    refine XS.iload X9.here hexec rfl (hb hbytes d44) rfl ?_
    exact Steps.refl _)
  exact ⟨T9, some (.int (Int32.ofNat len)), _, _, _, X9, by simp, rfl, rfl, (fun h => by cases h), ⟨rfl, B9, p9.from hh0, f9⟩, fun fs hl => c11.trans (X9.ireturnOut hexec hret rfl (Or.inl rfl) (hb hbytes d46) hl)⟩
end Cmp5
namespace Cmp3
def yN : MethodName := ⟨"java/lang/StringUTF16", "compress", "([CII)[B"⟩
abbrev yB : ByteArray := jdk_52_method_16_code
theorem d0 : decode yB 0 = .ok (.iload_n 2, 1) := by decide +kernel
theorem d1 : decode yB 1 = .ok (.newarray .byte, 2) := by decide +kernel
theorem d3 : decode yB 3 = .ok (.astore_n 3, 1) := by decide +kernel
theorem d4 : decode yB 4 = .ok (.aload_n 0, 1) := by decide +kernel
theorem d5 : decode yB 5 = .ok (.iload_n 1, 1) := by decide +kernel
theorem d6 : decode yB 6 = .ok (.aload_n 3, 1) := by decide +kernel
theorem d7 : decode yB 7 = .ok (.iconst 0, 1) := by decide +kernel
theorem d8 : decode yB 8 = .ok (.iload_n 2, 1) := by decide +kernel
theorem d9 : decode yB 9 = .ok (.invokestatic 115, 3) := by decide +kernel
theorem d12 : decode yB 12 = .ok (.istore 4, 2) := by decide +kernel
theorem d14 : decode yB 14 = .ok (.iload 4, 2) := by decide +kernel
theorem d16 : decode yB 16 = .ok (.iload_n 2, 1) := by decide +kernel
theorem d17 : decode yB 17 = .ok (.if_icmp (.eq) 40, 3) := by decide +kernel
theorem d57 : decode yB 57 = .ok (.aload_n 3, 1) := by decide +kernel
theorem d58 : decode yB 58 = .ok (.areturn, 1) := by decide +kernel
def site : List Cond := [.arrayClass .byte, Cmp5.tab] ++ staticW U16 115 Cmp5.yN
def tab : Cond := tabOf yN yB 6 (some (.array .byte)) site
def P (b : Addr) (A : Cell) (o len : Nat) (args : Array Value) (s : State) : Prop := args = #[.ref b, .int (Int32.ofNat o), .int (Int32.ofNat len)] ∧ Ch b A s ∧ o + len ≤ A.slots.size ∧ len ≤ 536870912 ∧ ∀ i, i < len → ¬ 255 < cv A (o + i)
def E (b : Addr) (A : Cell) (o len : Nat) (r : Option Value) (s u : State) : Prop := NewArr .byte "[B" len (fun j => .int (lo8 (cv A (o + j)))) r s u ∧ u.heap.size = s.heap.size + 1
/-- no char of the range above 255: a new byte[] of their low bytes -/
theorem law (l : Launch) (b : Addr) (A : Cell) (o len : Nat) : Law l yN 3 3 1 18 yB 6 (some (.array .byte)) site (P b A o len) (E b A o len) [] 1 len := by
  refine Law.of_walk (plainFor_of_name (by decide +kernel)) (by decide +kernel) (by decide +kernel) (by decide) (fun _ _ h => by rw [h.1]; rfl) (fun _ U U' hal hh h => ⟨h.1, h.2.1.mv hal hh, h.2.2⟩) (fun r U U' V V' h1 hal h2 h => ⟨NewArr.mv r U U' V V' h1 hal h2 h.1, by rw [h1, h2]; exact h.2⟩) ?_
  intro p e s m args below meth c s₁ X0 hexec hbytes hml hret hlk hnm hown hh0 W hP
  obtain ⟨rfl, hA, l1, l2, hp⟩ := hP
  have a31 := hA.1.2.2.2
  have c1 : Steps p.tables e below (s₁.setTop (entryFrame m #[.ref b, .int (Int32.ofNat o), .int (Int32.ofNat len)] 6)) (s₁.setTop (mkF m 0 #[.val (.ref b), .val (.int (Int32.ofNat o)), .val (.int (Int32.ofNat len)), .unset, .unset, .unset] [])) := entry rfl
  have c2 : Steps p.tables e below (s₁.setTop (entryFrame m #[.ref b, .int (Int32.ofNat o), .int (Int32.ofNat len)] 6)) (s₁.setTop (mkF m 1 #[.val (.ref b), .val (.int (Int32.ofNat o)), .val (.int (Int32.ofNat len)), .unset, .unset, .unset] [.int (Int32.ofNat len)])) := c1.trans (by
    refine XS.iloadN X0.here hexec rfl (hb hbytes d0) rfl ?_
    exact Steps.refl _)
  obtain ⟨T3, B3, X3, ba3, bs3, bv3, bh3, bf3, st3⟩ := X0.anew hexec (atype := .byte) (wk W (.arrayClass .byte)) rfl (by show len * 1 ≤ _; omega) (by omega) (g := (mkF m 1 #[.val (.ref b), .val (.int (Int32.ofNat o)), .val (.int (Int32.ofNat len)), .unset, .unset, .unset] [.int (Int32.ofNat len)])) rfl (hb hbytes d1) (rest := []) rfl (Nat.le_refl _) (by show 0 + len ≤ len; omega)
  rw [hh0] at ba3 st3
  have kp3 : XT.Kept s T3 := (XT.Kept.of_eq hh0).push bh3
  have hA3 := hA.keep X3.warmed.alike (kp3 _ _ hA.1.1)
  have hne : b ≠ s.heap.size := hA.1.ne
  have c4 : Steps p.tables e below (s₁.setTop (entryFrame m #[.ref b, .int (Int32.ofNat o), .int (Int32.ofNat len)] 6)) (T3.setTop (mkF m 3 #[.val (.ref b), .val (.int (Int32.ofNat o)), .val (.int (Int32.ofNat len)), .unset, .unset, .unset] [.ref s.heap.size])) := c2.trans (st3 _ (Steps.refl _))
  have c5 : Steps p.tables e below (s₁.setTop (entryFrame m #[.ref b, .int (Int32.ofNat o), .int (Int32.ofNat len)] 6)) (T3.setTop (mkF m 9 #[.val (.ref b), .val (.int (Int32.ofNat o)), .val (.int (Int32.ofNat len)), .val (.ref s.heap.size), .unset, .unset] [.int (Int32.ofNat len), .int 0, .ref s.heap.size, .int (Int32.ofNat o), .ref b])) := c4.trans (by
    refine XS.astoreN X3.here hexec rfl (hb hbytes d3) rfl rfl rfl ?_
    refine XS.aloadN X3.here hexec rfl (hb hbytes d4) rfl rfl ?_
    refine XS.iloadN X3.here hexec rfl (hb hbytes d5) rfl ?_
    refine XS.aloadN X3.here hexec rfl (hb hbytes d6) rfl rfl ?_
    refine iconstV X3.here hexec rfl 0 (hb hbytes d7) (by decide) ?_
    refine XS.iloadN X3.here hexec rfl (hb hbytes d8) rfl ?_
    exact Steps.refl _)
  obtain ⟨v6, T6, X6, E6, g6⟩ := X3.callS hexec (Cmp5.law l b A s.heap.size B3 o 0 len) hown (wks W (staticW U16 115 Cmp5.yN)) (wk W Cmp5.tab) (W := 0) (Nat.le_of_ble_eq_true rfl) (Nat.le_of_ble_eq_true rfl) (Nat.le_refl _) (by show 0 + len + 0 ≤ len; omega) (g := (mkF m 9 #[.val (.ref b), .val (.int (Int32.ofNat o)), .val (.int (Int32.ofNat len)), .val (.ref s.heap.size), .unset, .unset] [.int (Int32.ofNat len), .int (Int32.ofNat 0), .ref s.heap.size, .int (Int32.ofNat o), .ref b])) rfl (by rw [hml]; rfl) c5 (argsL := [.ref b, .int (Int32.ofNat o), .ref s.heap.size, .int (Int32.ofNat 0), .int (Int32.ofNat len)]) (rest := []) rfl rfl (by show 2 * 0 + 0 ≤ _; decide) (hb hbytes d9) (⟨rfl, hA3, ba3, hne, l1, by rw [bs3]; simp, hp⟩)
  obtain ⟨rfl, B6, p6, f6⟩ := E6
  have c7 : Steps p.tables e below (s₁.setTop (entryFrame m #[.ref b, .int (Int32.ofNat o), .int (Int32.ofNat len)] 6)) (T6.setTop (mkF m 12 #[.val (.ref b), .val (.int (Int32.ofNat o)), .val (.int (Int32.ofNat len)), .val (.ref s.heap.size), .unset, .unset] [.int (Int32.ofNat len)])) := g6
  have c8 : Steps p.tables e below (s₁.setTop (entryFrame m #[.ref b, .int (Int32.ofNat o), .int (Int32.ofNat len)] 6)) (T6.setTop (mkF m 58 #[.val (.ref b), .val (.int (Int32.ofNat o)), .val (.int (Int32.ofNat len)), .val (.ref s.heap.size), .val (.int (Int32.ofNat len)), .unset] [.ref s.heap.size])) := c7.trans (by
    refine XS.istore X6.here hexec rfl (hb hbytes d12) rfl rfl ?_
    refine XS.iload X6.here hexec rfl (hb hbytes d14) rfl ?_
    refine XS.iloadN X6.here hexec rfl (hb hbytes d16) rfl ?_
    refine XS.icmpYes X6.here hexec rfl (pc0 := 17) rfl (hb hbytes d17) rfl (ii_eq_t rfl) (by decide) rfl ?_
    refine XS.aloadN X6.here hexec rfl (hb hbytes d57) rfl rfl ?_
    exact Steps.refl _)
  have X8 := X6.wide (L' := []) (cells' := 1) (slots' := len) (fun x hx hlt => by
    simp only [List.nil_append, copyLocs, List.mem_map, List.mem_range] at hx
    obtain ⟨i, -, rfl⟩ := hx
    exact absurd hlt (Nat.lt_irrefl _)) (Nat.le_refl _) (by omega)
  exact ⟨T6, some (.ref s.heap.size), _, _, _, X8, rfl, rfl, rfl, (fun h => by cases h), ⟨⟨rfl, B6, ba3.like (X3.warmed.alike.symm.trans X6.warmed.alike) p6.1 f6.1 f6.2.1 f6.2.2.1, f6.2.1.trans bv3, by rw [X6.warmed.alike.findClass, f6.1]; exact bf3, by rw [f6.2.2.1, bs3]; simp, fun j hj => by rw [f6.2.2.2 j, if_pos (by omega)]; rfl, kp3.put p6 (Nat.le_refl _)⟩, by rw [p6.2.2, bh3, hh0]; simp⟩, fun fs hl => c8.trans (X8.areturnOut hexec rfl hret rfl (hb hbytes d58) hl)⟩
end Cmp3
namespace CodL
def yN : MethodName := ⟨"java/lang/StringUTF16", "coderFromArrayLen", "([BI)B"⟩
abbrev yB : ByteArray := jdk_52_method_15_code
theorem d0 : decode yB 0 = .ok (.iload_n 1, 1) := by decide +kernel
theorem d1 : decode yB 1 = .ok (.aload_n 0, 1) := by decide +kernel
theorem d2 : decode yB 2 = .ok (.arraylength, 1) := by decide +kernel
theorem d3 : decode yB 3 = .ok (.isub, 1) := by decide +kernel
theorem d4 : decode yB 4 = .ok (.bipush 31, 2) := by decide +kernel
theorem d6 : decode yB 6 = .ok (.iushr, 1) := by decide +kernel
theorem d7 : decode yB 7 = .ok (.i2b, 1) := by decide +kernel
theorem d8 : decode yB 8 = .ok (.ireturn, 1) := by decide +kernel
def site : List Cond := []
def tab : Cond := tabOf yN yB 2 (some .byte) site
def P (d : Addr) (B : Cell) (args : Array Value) (s : State) : Prop := args = #[.ref d, .int (Int32.ofNat B.slots.size)] ∧ Arr .byte d B s
def E (r : Option Value) (s u : State) : Prop := XT.PureE (some (.int 0)) r s u
/-- an array as long as the number of chars: LATIN1 -/
theorem law (l : Launch) (d : Addr) (B : Cell) : Law l yN 2 2 0 0 yB 2 (some .byte) site (P d B) E [] 0 0 := by
  refine Law.of_walk (plainFor_of_name (by decide +kernel)) (by decide +kernel) (by decide +kernel) (by decide) (fun _ _ h => by rw [h.1]; rfl) (fun _ U U' hal hh h => ⟨h.1, h.2.mv hal hh⟩) (fun r U U' V V' h1 hal h2 h => XT.PureE.mv r U U' V V' h1 hal h2 h) ?_
  intro p e s m args below meth c s₁ X0 hexec hbytes hml hret hlk hnm hown hh0 W hP
  obtain ⟨rfl, hB⟩ := hP
  have hB0 := hB.mv X0.warmed.alike hh0
  have c1 : Steps p.tables e below (s₁.setTop (entryFrame m #[.ref d, .int (Int32.ofNat B.slots.size)] 2)) (s₁.setTop (mkF m 0 #[.val (.ref d), .val (.int (Int32.ofNat B.slots.size))] [])) := entry rfl
  have c2 : Steps p.tables e below (s₁.setTop (entryFrame m #[.ref d, .int (Int32.ofNat B.slots.size)] 2)) (s₁.setTop (mkF m 2 #[.val (.ref d), .val (.int (Int32.ofNat B.slots.size))] [.ref d, .int (Int32.ofNat B.slots.size)])) := c1.trans (by
    refine XS.iloadN X0.here hexec rfl (hb hbytes d0) rfl ?_
    refine XS.aloadN X0.here hexec rfl (hb hbytes d1) rfl rfl ?_
    exact Steps.refl _)
  have c3 : Steps p.tables e below (s₁.setTop (entryFrame m #[.ref d, .int (Int32.ofNat B.slots.size)] 2)) (s₁.setTop (mkF m 8 #[.val (.ref d), .val (.int (Int32.ofNat B.slots.size))] [.int (lo8 (ushr (Int32.ofNat B.slots.size - Int32.ofNat B.slots.size) 31))])) := c2.trans (by
    refine X0.alen hexec hB0 rfl rfl (hb hbytes d2) ?_
    refine XS.isub X0.here hexec rfl (hb hbytes d3) rfl ?_
    refine bipushV X0.here hexec rfl 31 (hb hbytes d4) (by decide) ?_
    refine iushr X0.here hexec rfl (hb hbytes d6) rfl ?_
    refine i2b X0.here hexec rfl (hb hbytes d7) rfl ?_
    exact Steps.refl _)
  have e0 : lo8 (ushr (Int32.ofNat B.slots.size - Int32.ofNat B.slots.size) 31) = 0 := by rw [Int32.sub_self]; decide
  rw [e0] at c3
  exact ⟨s₁, some (.int 0), _, _, _, X0, rfl, rfl, rfl, (fun h => by cases h), ⟨rfl, hh0⟩, fun fs hl => c3.trans (X0.ireturnOut hexec hret rfl (Or.inr (Or.inr (Or.inl rfl))) (hb hbytes d8) hl)⟩
end CodL
/-- the String at a is Latin-1 over a new byte[] (the heap's one new cell): the low bytes of the len chars of A from o on; every cell but a is kept -/
def Got (a : Addr) (D : Cell) (fV fC : Field) (A : Cell) (o len : Nat) (r : Option Value) (s u : State) : Prop := r = none ∧ ∃ D' V : Cell, Blank "java/lang/String" a D' u ∧ Same D D' [fV.slot, fC.slot] ∧ D'.slots[fV.slot]? = some (.ref s.heap.size) ∧ D'.slots[fC.slot]? = some (.int 0) ∧ Arr .byte s.heap.size V u ∧ V.vm = .none ∧ u.vm.findClass "[B" = some V.cls ∧ V.slots.size = len ∧ (∀ j, j < len → V.slots[j]? = some (.int (lo8 (cv A (o + j))))) ∧ (∀ (y : Addr) (c : Cell), y ≠ a → s.heap[y]? = some c → u.heap[y]? = some c) ∧ u.heap.size = s.heap.size + 1
theorem Got.mv {a : Addr} {D A : Cell} {fV fC : Field} {o len : Nat} : ∀ r (U U' V V' : State), U'.heap = U.heap → V.vm.Alike V'.vm → V'.heap = V.heap → Got a D fV fC A o len r U V → Got a D fV fC A o len r U' V' :=
  fun r U U' V V' h1 hal h2 ⟨e0, D', X, a1, a2, a3, a4, a5, a6, a7, a8, a9, a10, a11⟩ => ⟨e0, D', X, a1.mv hal h2, a2, by rw [h1]; exact a3, a4, by rw [h1]; exact a5.mv hal h2, a6, by rw [hal.findClass]; exact a7, a8, a9, by rw [h1, h2]; exact a10, by rw [h1, h2]; exact a11⟩
namespace New4
def yN : MethodName := ⟨"java/lang/String", "<init>", "([CIILjava/lang/Void;)V"⟩
abbrev yB : ByteArray := jdk_42_method_149_code
theorem d0 : decode yB 0 = .ok (.aload_n 0, 1) := by decide +kernel
theorem d1 : decode yB 1 = .ok (.invokespecial 1, 3) := by decide +kernel
theorem d4 : decode yB 4 = .ok (.iload_n 3, 1) := by decide +kernel
theorem d5 : decode yB 5 = .ok (.ifCond (.ne) 22, 3) := by decide +kernel
theorem d27 : decode yB 27 = .ok (.getstatic 38, 3) := by decide +kernel
theorem d30 : decode yB 30 = .ok (.ifCond (.eq) 28, 3) := by decide +kernel
theorem d33 : decode yB 33 = .ok (.aload_n 1, 1) := by decide +kernel
theorem d34 : decode yB 34 = .ok (.iload_n 2, 1) := by decide +kernel
theorem d35 : decode yB 35 = .ok (.iload_n 3, 1) := by decide +kernel
theorem d36 : decode yB 36 = .ok (.invokestatic 177, 3) := by decide +kernel
theorem d39 : decode yB 39 = .ok (.astore 5, 2) := by decide +kernel
theorem d41 : decode yB 41 = .ok (.aload_n 0, 1) := by decide +kernel
theorem d42 : decode yB 42 = .ok (.aload 5, 2) := by decide +kernel
theorem d44 : decode yB 44 = .ok (.iload_n 3, 1) := by decide +kernel
theorem d45 : decode yB 45 = .ok (.invokestatic 47, 3) := by decide +kernel
theorem d48 : decode yB 48 = .ok (.putfield 15, 3) := by decide +kernel
theorem d51 : decode yB 51 = .ok (.aload_n 0, 1) := by decide +kernel
theorem d52 : decode yB 52 = .ok (.aload 5, 2) := by decide +kernel
theorem d54 : decode yB 54 = .ok (.putfield 9, 3) := by decide +kernel
theorem d57 : decode yB 57 = .ok (.return_, 1) := by decide +kernel
def site : List Cond := [.fieldLink "java/lang/String" 38 "java/lang/String" "COMPACT_STRINGS" "Z", Cmp3.tab, CodL.tab, .laysFinal "java/lang/String" "java/lang/String" "value" "[B", .fieldLink "java/lang/String" 9 "java/lang/String" "value" "[B", .laysFinal "java/lang/String" "java/lang/String" "coder" "B", .fieldLink "java/lang/String" 15 "java/lang/String" "coder" "B"] ++ objW "java/lang/String" 1 ++ staticW "java/lang/String" 177 Cmp3.yN ++ staticW "java/lang/String" 47 CodL.yN
def tab : Cond := tabOf yN yB 6 none site
def P (a : Addr) (D : Cell) (fV fC : Field) (b : Addr) (A : Cell) (z : Int32) (o len : Nat) (args : Array Value) (s : State) : Prop := args = #[.ref a, .ref b, .int (Int32.ofNat o), .int (Int32.ofNat len), .null] ∧ Blank "java/lang/String" a D s ∧ Found "java/lang/String" "value" "[B" fV s ∧ Found "java/lang/String" "coder" "B" fC s ∧ Ch b A s ∧ StaticIs s "java/lang/String" "COMPACT_STRINGS" "Z" (.int z) ∧ ¬ z = 0 ∧ 0 < len ∧ o + len ≤ A.slots.size ∧ len ≤ 536870912 ∧ ∀ i, i < len → ¬ 255 < cv A (o + i)
def E (a : Addr) (D : Cell) (fV fC : Field) (A : Cell) (o len : Nat) (r : Option Value) (s u : State) : Prop := Got a D fV fC A o len r s u
/-- len > 0, no char of the range above 255: a Latin-1 String of their low bytes -/
theorem law (l : Launch) (a : Addr) (D : Cell) (fV fC : Field) (b : Addr) (A : Cell) (z : Int32) (o len : Nat) : Law l yN 5 4 2 35 yB 6 none site (P a D fV fC b A z o len) (E a D fV fC A o len) [⟨a, fC.slot⟩, ⟨a, fV.slot⟩] 1 len := by
  refine Law.of_walk (plainFor_of_name (by decide +kernel)) (by decide +kernel) (by decide +kernel) (by decide) (fun _ _ h => by rw [h.1]; rfl) (fun _ U U' hal hh h => ⟨h.1, h.2.1.mv hal hh, h.2.2.1.al hal, h.2.2.2.1.al hal, h.2.2.2.2.1.mv hal hh, h.2.2.2.2.2.1.there hal hh, h.2.2.2.2.2.2⟩) (fun r U U' V V' h1 hal h2 h => Got.mv r U U' V V' h1 hal h2 h) ?_
  intro p e s m args below meth c s₁ X0 hexec hbytes hml hret hlk hnm hown hh0 W hP
  obtain ⟨rfl, hB, f1, f2, hA, s1, hz, l0, l1, l2, hp⟩ := hP
  have a31 := hA.1.2.2.2
  have c1 : Steps p.tables e below (s₁.setTop (entryFrame m #[.ref a, .ref b, .int (Int32.ofNat o), .int (Int32.ofNat len), .null] 6)) (s₁.setTop (mkF m 0 #[.val (.ref a), .val (.ref b), .val (.int (Int32.ofNat o)), .val (.int (Int32.ofNat len)), .val .null, .unset] [])) := entry rfl
  have c2 : Steps p.tables e below (s₁.setTop (entryFrame m #[.ref a, .ref b, .int (Int32.ofNat o), .int (Int32.ofNat len), .null] 6)) (s₁.setTop (mkF m 1 #[.val (.ref a), .val (.ref b), .val (.int (Int32.ofNat o)), .val (.int (Int32.ofNat len)), .val .null, .unset] [.ref a])) := c1.trans (by
    refine XS.aloadN X0.here hexec rfl (hb hbytes d0) rfl rfl ?_
    exact Steps.refl _)
  obtain ⟨T3, X3, q3, st3⟩ := X0.oinit hexec hown (wks W (objW "java/lang/String" 1)) (g := (mkF m 1 #[.val (.ref a), .val (.ref b), .val (.int (Int32.ofNat o)), .val (.int (Int32.ofNat len)), .val .null, .unset] [.ref a])) rfl (by rw [hml]; rfl) (rest := []) rfl (hb hbytes d1) (W := 0) (by show 2 * 0 + 0 ≤ _; decide) (Nat.le_of_ble_eq_true rfl) (Nat.le_of_ble_eq_true rfl)
  have hh3 := q3.trans hh0
  have c4 : Steps p.tables e below (s₁.setTop (entryFrame m #[.ref a, .ref b, .int (Int32.ofNat o), .int (Int32.ofNat len), .null] 6)) (T3.setTop (mkF m 27 #[.val (.ref a), .val (.ref b), .val (.int (Int32.ofNat o)), .val (.int (Int32.ofNat len)), .val .null, .unset] [])) := (c2.trans (st3 _ (Steps.refl _))).trans (by
    refine XS.iloadN X3.here hexec rfl (hb hbytes d4) rfl ?_
    refine XS.ifYes X3.here hexec rfl (pc0 := 5) rfl (hb hbytes d5) rfl (i0_ne_t (nz32 (by omega) l0)) (by decide) rfl ?_
    exact Steps.refl _)
  obtain ⟨T5, X5, q5, st5⟩ := X3.sget hexec hown (wk W (.fieldLink "java/lang/String" 38 "java/lang/String" "COMPACT_STRINGS" "Z")) s1 (fun _ _ h => by rw [hh3]; exact h) (g := (mkF m 27 #[.val (.ref a), .val (.ref b), .val (.int (Int32.ofNat o)), .val (.int (Int32.ofNat len)), .val .null, .unset] [])) rfl (hb hbytes d27)
  have hh5 := q5.trans hh3
  have c6 : Steps p.tables e below (s₁.setTop (entryFrame m #[.ref a, .ref b, .int (Int32.ofNat o), .int (Int32.ofNat len), .null] 6)) (T5.setTop (mkF m 30 #[.val (.ref a), .val (.ref b), .val (.int (Int32.ofNat o)), .val (.int (Int32.ofNat len)), .val .null, .unset] [.int z])) := c4.trans (st5 _ (Steps.refl _))
  have c7 : Steps p.tables e below (s₁.setTop (entryFrame m #[.ref a, .ref b, .int (Int32.ofNat o), .int (Int32.ofNat len), .null] 6)) (T5.setTop (mkF m 36 #[.val (.ref a), .val (.ref b), .val (.int (Int32.ofNat o)), .val (.int (Int32.ofNat len)), .val .null, .unset] [.int (Int32.ofNat len), .int (Int32.ofNat o), .ref b])) := c6.trans (by
    refine XS.ifNo X5.here hexec rfl (hb hbytes d30) rfl (i0_eq_f hz) ?_
    refine XS.aloadN X5.here hexec rfl (hb hbytes d33) rfl rfl ?_
    refine XS.iloadN X5.here hexec rfl (hb hbytes d34) rfl ?_
    refine XS.iloadN X5.here hexec rfl (hb hbytes d35) rfl ?_
    exact Steps.refl _)
  obtain ⟨v8, T8, X8, E8, g8⟩ := X5.callS hexec (Cmp3.law l b A o len) hown (wks W (staticW "java/lang/String" 177 Cmp3.yN)) (wk W Cmp3.tab) (W := 0) (Nat.le_of_ble_eq_true rfl) (Nat.le_of_ble_eq_true rfl) (Nat.le_refl _) (by show 0 + len ≤ len; omega) (g := (mkF m 36 #[.val (.ref a), .val (.ref b), .val (.int (Int32.ofNat o)), .val (.int (Int32.ofNat len)), .val .null, .unset] [.int (Int32.ofNat len), .int (Int32.ofNat o), .ref b])) rfl (by rw [hml]; rfl) c7 (argsL := [.ref b, .int (Int32.ofNat o), .int (Int32.ofNat len)]) (rest := []) rfl rfl (by show 2 * 0 + 0 ≤ _; decide) (hb hbytes d36) (⟨rfl, hA.mv X5.warmed.alike hh5, l1, l2, hp⟩)
  obtain ⟨e8, z8⟩ := E8
  obtain ⟨rfl, N, n1, n2, n3, n4, n5, n6⟩ := NewArr.mv _ T5 s _ _ hh5.symm (Vm.Alike.refl _) rfl e8
  rw [hh5] at z8
  have hB1 := hB.keep X8.warmed.alike (n6 _ _ hB.1)
  have hne : s.heap.size ≠ a := (Nat.ne_of_lt (Array.getElem?_eq_some_iff.mp hB.1).1).symm
  have c9 : Steps p.tables e below (s₁.setTop (entryFrame m #[.ref a, .ref b, .int (Int32.ofNat o), .int (Int32.ofNat len), .null] 6)) (T8.setTop (mkF m 39 #[.val (.ref a), .val (.ref b), .val (.int (Int32.ofNat o)), .val (.int (Int32.ofNat len)), .val .null, .unset] [.ref s.heap.size])) := g8
  have c10 : Steps p.tables e below (s₁.setTop (entryFrame m #[.ref a, .ref b, .int (Int32.ofNat o), .int (Int32.ofNat len), .null] 6)) (T8.setTop (mkF m 45 #[.val (.ref a), .val (.ref b), .val (.int (Int32.ofNat o)), .val (.int (Int32.ofNat len)), .val .null, .val (.ref s.heap.size)] [.int (Int32.ofNat N.slots.size), .ref s.heap.size, .ref a])) := by
    have hc : Steps p.tables e below (s₁.setTop (entryFrame m #[.ref a, .ref b, .int (Int32.ofNat o), .int (Int32.ofNat len), .null] 6)) (T8.setTop (mkF m 45 #[.val (.ref a), .val (.ref b), .val (.int (Int32.ofNat o)), .val (.int (Int32.ofNat len)), .val .null, .val (.ref s.heap.size)] [.int (Int32.ofNat len), .ref s.heap.size, .ref a])) := c9.trans (by
      refine XS.astore X8.here hexec rfl (hb hbytes d39) rfl rfl rfl ?_
      refine XS.aloadN X8.here hexec rfl (hb hbytes d41) rfl rfl ?_
      refine XS.aload X8.here hexec rfl (hb hbytes d42) rfl rfl ?_
      refine XS.iloadN X8.here hexec rfl (hb hbytes d44) rfl ?_
      exact Steps.refl _)
    rw [n4]; exact hc
  obtain ⟨v11, T11, X11, E11, g11⟩ := X8.callS hexec (CodL.law l s.heap.size N) hown (wks W (staticW "java/lang/String" 47 CodL.yN)) (wk W CodL.tab) (W := 1) (Nat.le_of_ble_eq_true rfl) (Nat.le_of_ble_eq_true rfl) (Nat.le_refl _) (by show 0 + len + 0 ≤ len; omega) (g := (mkF m 45 #[.val (.ref a), .val (.ref b), .val (.int (Int32.ofNat o)), .val (.int (Int32.ofNat len)), .val .null, .val (.ref s.heap.size)] [.int (Int32.ofNat N.slots.size), .ref s.heap.size, .ref a])) rfl (by rw [hml]; rfl) c10 (argsL := [.ref s.heap.size, .int (Int32.ofNat N.slots.size)]) (rest := [.ref a]) rfl rfl (by show 2 * 0 + (1 + 0) ≤ _; decide) (hb hbytes d45) (⟨rfl, n1⟩)
  obtain ⟨rfl, q11⟩ := E11
  have hB11 := hB1.mv (X8.warmed.alike.symm.trans X11.warmed.alike) q11
  have c12 : Steps p.tables e below (s₁.setTop (entryFrame m #[.ref a, .ref b, .int (Int32.ofNat o), .int (Int32.ofNat len), .null] 6)) (T11.setTop (mkF m 48 #[.val (.ref a), .val (.ref b), .val (.int (Int32.ofNat o)), .val (.int (Int32.ofNat len)), .val .null, .val (.ref s.heap.size)] [.int 0, .ref a])) := g11
  obtain ⟨T13, X13, p13, bl13, sl13, st13⟩ := X11.finit hexec hown (wk W (.fieldLink "java/lang/String" 15 "java/lang/String" "coder" "B")) (Or.inr ⟨_, (wk W (.laysFinal "java/lang/String" "java/lang/String" "coder" "B"))⟩) (Or.inl ⟨rfl, hnm⟩) f2 (Or.inl rfl) hB11 (t := .byte) (by decide +kernel) rfl (g := (mkF m 48 #[.val (.ref a), .val (.ref b), .val (.int (Int32.ofNat o)), .val (.int (Int32.ofNat len)), .val .null, .val (.ref s.heap.size)] [.int 0, .ref a])) rfl (rest := []) rfl (hb hbytes d48)
  have c14 : Steps p.tables e below (s₁.setTop (entryFrame m #[.ref a, .ref b, .int (Int32.ofNat o), .int (Int32.ofNat len), .null] 6)) (T13.setTop (mkF m 54 #[.val (.ref a), .val (.ref b), .val (.int (Int32.ofNat o)), .val (.int (Int32.ofNat len)), .val .null, .val (.ref s.heap.size)] [.ref s.heap.size, .ref a])) := (c12.trans (st13 _ (Steps.refl _))).trans (by
    refine XS.aloadN X13.here hexec rfl (hb hbytes d51) rfl rfl ?_
    refine XS.aload X13.here hexec rfl (hb hbytes d52) rfl rfl ?_
    exact Steps.refl _)
  obtain ⟨T15, X15, p15, bl15, sl15, st15⟩ := X13.finit hexec hown (wk W (.fieldLink "java/lang/String" 9 "java/lang/String" "value" "[B")) (Or.inr ⟨_, (wk W (.laysFinal "java/lang/String" "java/lang/String" "value" "[B"))⟩) (Or.inl ⟨rfl, hnm⟩) f1 (Or.inl rfl) bl13 (t := (.array .byte)) (by decide +kernel) rfl (g := (mkF m 54 #[.val (.ref a), .val (.ref b), .val (.int (Int32.ofNat o)), .val (.int (Int32.ofNat len)), .val .null, .val (.ref s.heap.size)] [.ref s.heap.size, .ref a])) rfl (rest := []) rfl (hb hbytes d54)
  have c16 : Steps p.tables e below (s₁.setTop (entryFrame m #[.ref a, .ref b, .int (Int32.ofNat o), .int (Int32.ofNat len), .null] 6)) (T15.setTop (mkF m 57 #[.val (.ref a), .val (.ref b), .val (.int (Int32.ofNat o)), .val (.int (Int32.ofNat len)), .val .null, .val (.ref s.heap.size)] [])) := c14.trans (st15 _ (Steps.refl _))
  have ap := apart (Or.inr ⟨_, (wk W (.laysFinal "java/lang/String" "java/lang/String" "value" "[B"))⟩) (Or.inr ⟨_, (wk W (.laysFinal "java/lang/String" "java/lang/String" "coder" "B"))⟩) f1 f2 (t₁ := .array .byte) (t₂ := .byte) (by decide +kernel) (by decide +kernel) (by decide)
  have al := X8.warmed.alike.symm.trans X15.warmed.alike
  have n7 : T11.heap[s.heap.size]? = some N := by rw [q11]; exact n1.1
  exact ⟨T15, none, _, _, _, X15, by simp, rfl, by omega, (fun _ => rfl), ⟨rfl, _, N, bl15, ((Same.refl D _).set _ (by simp)).set _ (by simp), sl15, (Cell.slots_setSlot_ne _ ap).trans sl13, n1.keep al (p15.other hne (p13.other hne n7)), n2, by rw [al.findClass]; exact n3, n4, n5, fun y c h1 h2 => p15.other h1 (p13.other h1 (by rw [q11]; exact n6 y c h2)), by rw [p15.2.2, p13.2.2, q11]; exact z8⟩, fun fs hl => c16.trans (X15.returnOut hexec hret (hb hbytes d57) hl)⟩
end New4
namespace New1
def yN : MethodName := ⟨"java/lang/String", "<init>", "([C)V"⟩
abbrev yB : ByteArray := jdk_42_method_3_code
theorem d0 : decode yB 0 = .ok (.aload_n 0, 1) := by decide +kernel
theorem d1 : decode yB 1 = .ok (.aload_n 1, 1) := by decide +kernel
theorem d2 : decode yB 2 = .ok (.iconst 0, 1) := by decide +kernel
theorem d3 : decode yB 3 = .ok (.aload_n 1, 1) := by decide +kernel
theorem d4 : decode yB 4 = .ok (.arraylength, 1) := by decide +kernel
theorem d5 : decode yB 5 = .ok (.aconst_null, 1) := by decide +kernel
theorem d6 : decode yB 6 = .ok (.invokespecial 27, 3) := by decide +kernel
theorem d9 : decode yB 9 = .ok (.return_, 1) := by decide +kernel
def site : List Cond := [New4.tab] ++ initW "java/lang/String" 27 New4.yN
def tab : Cond := tabOf yN yB 2 none site
def P (a : Addr) (D : Cell) (fV fC : Field) (b : Addr) (A : Cell) (z : Int32) (args : Array Value) (s : State) : Prop := args = #[.ref a, .ref b] ∧ Blank "java/lang/String" a D s ∧ Found "java/lang/String" "value" "[B" fV s ∧ Found "java/lang/String" "coder" "B" fC s ∧ Ch b A s ∧ StaticIs s "java/lang/String" "COMPACT_STRINGS" "Z" (.int z) ∧ ¬ z = 0 ∧ 0 < A.slots.size ∧ A.slots.size ≤ 536870912 ∧ ∀ i, i < A.slots.size → ¬ 255 < cv A i
def E (a : Addr) (D : Cell) (fV fC : Field) (A : Cell) (r : Option Value) (s u : State) : Prop := Got a D fV fC A 0 A.slots.size r s u
/-- new String(chars), not empty, no char above 255: a Latin-1 String of their low bytes -/
theorem law (l : Launch) (a : Addr) (D : Cell) (fV fC : Field) (b : Addr) (A : Cell) (z : Int32) : Law l yN 2 1 3 52 yB 2 none site (P a D fV fC b A z) (E a D fV fC A) [⟨a, fC.slot⟩, ⟨a, fV.slot⟩] 1 A.slots.size := by
  refine Law.of_walk (plainFor_of_name (by decide +kernel)) (by decide +kernel) (by decide +kernel) (by decide) (fun _ _ h => by rw [h.1]; rfl) (fun _ U U' hal hh h => ⟨h.1, h.2.1.mv hal hh, h.2.2.1.al hal, h.2.2.2.1.al hal, h.2.2.2.2.1.mv hal hh, h.2.2.2.2.2.1.there hal hh, h.2.2.2.2.2.2⟩) (fun r U U' V V' h1 hal h2 h => Got.mv r U U' V V' h1 hal h2 h) ?_
  intro p e s m args below meth c s₁ X0 hexec hbytes hml hret hlk hnm hown hh0 W hP
  obtain ⟨rfl, hB, f1, f2, hA, s1, hz, l0, l2, hp⟩ := hP
  have c1 : Steps p.tables e below (s₁.setTop (entryFrame m #[.ref a, .ref b] 2)) (s₁.setTop (mkF m 0 #[.val (.ref a), .val (.ref b)] [])) := entry rfl
  have c2 : Steps p.tables e below (s₁.setTop (entryFrame m #[.ref a, .ref b] 2)) (s₁.setTop (mkF m 6 #[.val (.ref a), .val (.ref b)] [.null, .int (Int32.ofNat A.slots.size), .int 0, .ref b, .ref a])) := c1.trans (by
    refine XS.aloadN X0.here hexec rfl (hb hbytes d0) rfl rfl ?_
    refine XS.aloadN X0.here hexec rfl (hb hbytes d1) rfl rfl ?_
    refine iconstV X0.here hexec rfl 0 (hb hbytes d2) (by decide) ?_
    refine XS.aloadN X0.here hexec rfl (hb hbytes d3) rfl rfl ?_
    refine X0.alen hexec (hA.1.mv X0.warmed.alike hh0) rfl rfl (hb hbytes d4) ?_
    refine XS.aconstNull X0.here hexec rfl (hb hbytes d5) ?_
    exact Steps.refl _)
  obtain ⟨v3, T3, X3, E3, g3⟩ := X0.callN hexec (New4.law l a D fV fC b A z 0 A.slots.size) rfl hown (wks W (initW "java/lang/String" 27 New4.yN)) (W New4.tab (by simp only [site, List.mem_cons, List.mem_append, true_or, or_true])) (W := 0) (Nat.le_of_ble_eq_true rfl) (Nat.le_of_ble_eq_true rfl) (Nat.le_refl _) (by show 0 + A.slots.size ≤ A.slots.size; omega) (g := (mkF m 6 #[.val (.ref a), .val (.ref b)] [.null, .int (Int32.ofNat A.slots.size), .int (Int32.ofNat 0), .ref b, .ref a])) rfl (by rw [hml]; rfl) c2 (argsL := [.ref b, .int (Int32.ofNat 0), .int (Int32.ofNat A.slots.size), .null]) (rest := []) rfl rfl (by show 2 * 0 + 0 ≤ _; decide) (hb hbytes d6) (⟨rfl, hB.mv X0.warmed.alike hh0, f1.al X0.warmed.alike, f2.al X0.warmed.alike, hA.mv X0.warmed.alike hh0, s1.there X0.warmed.alike hh0, hz, l0, by omega, l2, fun i hi => by rw [Nat.zero_add]; exact hp i hi⟩)
  have e0 := Got.mv _ s₁ s _ _ hh0.symm (Vm.Alike.refl _) rfl E3
  obtain rfl := e0.1
  have c4 : Steps p.tables e below (s₁.setTop (entryFrame m #[.ref a, .ref b] 2)) (T3.setTop (mkF m 9 #[.val (.ref a), .val (.ref b)] [])) := g3
  exact ⟨T3, none, _, _, _, X3, by simp, rfl, by omega, (fun _ => rfl), e0, fun fs hl => c4.trans (X3.returnOut hexec hret (hb hbytes d9) hl)⟩
theorem pays {l : Launch} {R : Room} {p : Program} {e : Env} {below : List Frame} {s : State} {sargs : Array Value} {len W : Nat} (a : Addr) (D : Cell) (fV fC : Field) (b : Addr) (A : Cell) (z : Int32) (htab : tab.before sargs s = true) (hfr : 4 ≤ R.frames) (hlo : W + 65 ≤ R.locals) :
    Back l R p e below s sargs yN len W (fun A₁ a₁ => A₁.cells + 1 ≤ R.cells ∧ A₁.slots + A.slots.size ≤ R.slots ∧ P a D fV fC b A z a₁ A₁.U) (fun A₁ _ v₁ B₁ => E a D fV fC A v₁ A₁.U B₁.U ∧ B₁.locs = A₁.locs ++ [⟨a, fC.slot⟩, ⟨a, fV.slot⟩] ∧ B₁.cells = A₁.cells + 1 ∧ B₁.slots = A₁.slots + A.slots.size) :=
  (law l a D fV fC b A z).pays htab hfr (by omega)
end New1
end StrChars
namespace StrChars.Road
open Jvm Sem ClassFile Op Lib Jvm.Stand Jvm.Free Jvm.Free.XT
open Jvm.Lib.Cold (StaticIs)
abbrev ST : String := "java/lang/String"
/-- every table word that New1's law asks, flat -/
abbrev words : List Jvm.Cond := [.code New1.yN New1.yB 2 none, .initialized ST, .methodLink ST 27 New4.yN, .instanceMethod New4.yN,
  .code New4.yN New4.yB 6 none, .fieldLink ST 38 ST "COMPACT_STRINGS" "Z", .laysFinal ST ST "value" "[B", .fieldLink ST 9 ST "value" "[B", .laysFinal ST ST "coder" "B", .fieldLink ST 15 ST "coder" "B",
  .methodLink ST 1 Lib.objectInit, .instanceMethod Lib.objectInit, .code Lib.objectInit ⟨#[0xb1]⟩ 1 none, .methodLink ST 177 Cmp3.yN, .static Cmp3.yN, .methodLink ST 47 CodL.yN, .static CodL.yN,
  .code Cmp3.yN Cmp3.yB 6 (some (.array .byte)), .initialized U16, .arrayClass .byte, .methodLink U16 115 Cmp5.yN, .static Cmp5.yN, .code Cmp5.yN Cmp5.yB 7 (some .int), .code CodL.yN CodL.yB 2 (some .byte)]
theorem tab_of {a : Array Value} {s : State} (h : ∀ w ∈ words, w.before a s = true) : New1.tab.before a s = true := by
  have h5 : Cmp5.tab.before a s = true := unparts (wk h (.code Cmp5.yN Cmp5.yB 7 (some .int))) (wks h (.initialized Cmp5.yN.cls :: Cmp5.site))
  have hc : CodL.tab.before a s = true := unparts (wk h (.code CodL.yN CodL.yB 2 (some .byte))) (wks h (.initialized CodL.yN.cls :: CodL.site))
  have q5 : ∀ w ∈ Cmp5.tab :: words, w.before a s = true := fun w hw => (List.mem_cons.mp hw).elim (fun e => e ▸ h5) (h w)
  have h3 : Cmp3.tab.before a s = true := unparts (wk q5 (.code Cmp3.yN Cmp3.yB 6 (some (.array .byte)))) (wks q5 (.initialized Cmp3.yN.cls :: Cmp3.site))
  have q3 : ∀ w ∈ Cmp3.tab :: CodL.tab :: words, w.before a s = true := fun w hw => (List.mem_cons.mp hw).elim (fun e => e ▸ h3) fun hw => (List.mem_cons.mp hw).elim (fun e => e ▸ hc) (h w)
  have h4 : New4.tab.before a s = true := unparts (wk q3 (.code New4.yN New4.yB 6 none)) (wks q3 (.initialized New4.yN.cls :: New4.site))
  have q4 : ∀ w ∈ New4.tab :: words, w.before a s = true := fun w hw => (List.mem_cons.mp hw).elim (fun e => e ▸ h4) (h w)
  exact unparts (wk q4 (.code New1.yN New1.yB 2 none)) (wks q4 (.initialized New1.yN.cls :: New1.site))
/-- the words ride from the start Z to the walk's own state -/
theorem moved {Z s : State} {a0 args : Array Value} (hZ : Z.Warmed39 s.vm) (hw : ∀ d ∈ words, d.before a0 Z = true) : ∀ d ∈ words, d.before args s = true := fun d hd => by
  have q := hw d hd
  have t : ∀ d ∈ words, d = .arrayClass .byte ∨ (d.onTables && d.keepsFace) = true := by decide +kernel
  rcases t d hd with rfl | t
  · exact RoadKit.mvA hZ q
  · exact RoadKit.mv hZ q t
/-- WHAT COMES BACK, over the tables of the start Z: h the heap at the call, h' behind it -/
def Q (Z : State) (x : Addr) (A : Cell) (h : Heap) (v : Option Value) (h' : Heap) (L : List Loc) : Prop := v = none ∧ (∀ y ∈ L, y.base = x) ∧ RoadKit.Keep h h' [x] ∧ h'.size = h.size + 1 ∧ RoadKit.Exa Z h' x ST ∧ RoadKit.Fld Z h' x ST "value" "[B" (.ref h.size) ∧ RoadKit.Fld Z h' x ST "coder" "B" (.int 0) ∧
  (∃ V : Cell, RoadKit.Arr Z h' h.size V .byte ∧ V.vm = .none ∧ Z.vm.findClass "[B" = some V.cls ∧ V.slots.size = A.slots.size ∧ ∀ j, j < A.slots.size → V.slots[j]? = some (.int (lo8 (cv A j)))) ∧
  ∀ (O n d : String) (w : Value), RoadKit.Fld Z h x O n d w → RoadKit.slotOf Z O n d ≠ RoadKit.slotOf Z ST "value" "[B" → RoadKit.slotOf Z O n d ≠ RoadKit.slotOf Z ST "coder" "B" → RoadKit.Fld Z h' x O n d w
/-- **new String(chars) AT A CALL, IN THE ROAD'S FORM**: for specialBack behind newO: x the fresh String, b the char[] with the cell A -/
theorem back {p : Program} {l : Launch} {e : Env} {R : Room} {s : State} {args : Array Value} {below : List Frame} {len W : Nat} {Z : State} {a0 : Array Value} {h : Heap} (hZ : Z.Warmed39 s.vm) (hw : ∀ d ∈ words, d.before a0 Z = true) {kI : Nat} (wi : (Jvm.Cond.instantiable ST kI).before a0 Z = true)
    {x b : Addr} {A : Cell} {z : Int32} {v0 c0 : Value} (E : RoadKit.Exa Z h x ST) (V : RoadKit.Fld Z h x ST "value" "[B" v0) (C : RoadKit.Fld Z h x ST "coder" "B" c0) (K : RoadKit.Arr Z h b A .char) (hty : Typed .char A) (S : RoadKit.Sta Z h ST "COMPACT_STRINGS" "Z" (.int z)) (hz : ¬ z = 0)
    (l0 : 0 < A.slots.size) (l2 : A.slots.size ≤ 536870912) (hp : ∀ i, i < A.slots.size → ¬ 255 < cv A i) (hfr : 4 ≤ R.frames) (hlo : W + 65 ≤ R.locals) :
    Back l R p e below s args New1.yN len W (fun P a => a = #[.ref x, .ref b] ∧ P.U.heap = h ∧ P.cells + 1 ≤ R.cells ∧ P.slots + A.slots.size ≤ R.slots)
      (fun P _ v B => ∃ L, Q Z x A h v B.U.heap L ∧ B.locs = P.locs ++ L ∧ B.cells = P.cells + 1 ∧ B.slots = P.slots + A.slots.size) := by
  intro m meth c P g ig mk a X hg hsize hdg hW hn hp'
  obtain ⟨rfl, rfl, r1, r2⟩ := hp'
  have al : Z.vm.Alike P.U.vm := hZ.alike.trans X.warmed.alike
  obtain ⟨D, cfV, kV, iV, fV, hD, gV, stV, knV, obV, asV, slV⟩ := id V
  obtain ⟨D', cfC, kC, iC, fC, hD', gC, stC, -, -, asC, slC⟩ := id C
  cases hD.symm.trans hD'
  obtain ⟨D2, kD, e1, e2, e3, e4, e5⟩ := id E
  cases hD.symm.trans e1
  obtain ⟨c2, k2, i1, i2, i3, -⟩ := Cond.instantiable_spec wi
  cases e2.symm.trans i1
  cases e3.symm.trans i2
  obtain ⟨kU, u1, u2⟩ := al.2.2 _ _ e3
  have hB : Blank ST x D P.U := ⟨hD, ⟨knV, fun q hq => by rw [hq] at obV; cases obV⟩, by rw [al.findClass]; exact e2, kU, u1, by rw [u2]; exact i3, by rw [u2]; exact e5 i3⟩
  have F1 : Found ST "value" "[B" fV P.U := ⟨SBG.found_only al ⟨cfV, kV, iV, gV⟩, stV⟩
  have F2 : Found ST "coder" "B" fC P.U := ⟨SBG.found_only al ⟨cfC, kC, iC, gC⟩, stC⟩
  have hA : Ch b A P.U := ⟨⟨K.1, State.isArrayOf_alike al K.2.1, K.2.2, by omega⟩, hty⟩
  have hS : StaticIs P.U ST "COMPACT_STRINGS" "Z" (.int z) := by
    obtain ⟨cfS, iS, kS, fS, st, cS, t1, t2, t3, t4, t5, t6, t7⟩ := S
    exact StaticIs.there (s := { Z with heap := P.U.heap }) ⟨cfS, iS, kS, fS, st, cS, t1, t2, t3, t4, t5, (fun q => by rw [q] at t6; cases t6), t7⟩ al rfl
  obtain ⟨v, B, X', ⟨⟨hv, E', V', q1, q2, q3, q4, q5, q6, q7, q8, q9, q10, q11⟩, hl, hc, hs⟩, st⟩ := New1.pays x D fV fC b A z (tab_of (moved hZ hw)) hfr hlo m meth c P g ig mk _ X hg hsize hdg hW hn ⟨r1, r2, rfl, hB, F1, F2, hA, hS, hz, l0, l2, hp⟩
  have al' : Z.vm.Alike B.U.vm := hZ.alike.trans X'.warmed.alike
  have hsz : E'.slots.size = D.slots.size := by
    obtain ⟨-, -, -, kB, w1, w2, w3⟩ := q1
    obtain ⟨kB', y1, y2⟩ := al'.2.2 _ _ e3
    rw [q2.2.1] at w1
    cases w1.symm.trans y1
    rw [w3, e5 i3, y2]
  refine ⟨v, B, X', ⟨_, ⟨hv, ?_, ⟨by omega, fun y cy hy hn' => q10 y cy (by simpa using hn') hy, fun y cy hy => ?_⟩, q11, ⟨E', _, q1.1, by rw [q2.2.1]; exact e2, by rw [q2.2.1]; exact e3, by rw [q2.1]; exact obV, fun _ => by rw [hsz]; exact e5 i3⟩,
    ⟨E', cfV, kV, iV, fV, q1.1, gV, stV, by rw [q2.1]; exact knV, by rw [q2.1]; exact obV, by rw [q2.2.1]; exact asV, q3⟩, ⟨E', cfC, kC, iC, fC, q1.1, gC, stC, by rw [q2.1]; exact knV, by rw [q2.1]; exact obV, by rw [q2.2.1]; exact asC, q4⟩,
    ⟨V', ⟨q5.1, State.isArrayOf_alike al'.symm q5.2.1, q5.2.2.1⟩, q6, by rw [← al'.findClass]; exact q7, q8, fun j hj => by have := q9 j hj; rwa [Nat.zero_add] at this⟩, fun O n d w F n1 n2 => ?_⟩, hl, hc, hs⟩, st⟩
  · intro y hy
    simp only [List.mem_cons, List.not_mem_nil, or_false] at hy
    rcases hy with rfl | rfl <;> rfl
  · by_cases q : y = x
    · subst q
      cases hD.symm.trans hy
      exact ⟨E', q1.1, q2.2.1, q2.1, hsz⟩
    · exact ⟨cy, q10 y cy q hy, rfl, rfl, rfl⟩
  · obtain ⟨D3, cf, k, i, f, g1, g2, g3, g4, g5, g6, g7⟩ := F
    cases hD.symm.trans g1
    simp only [RoadKit.slotOf, g2, gV, gC, Option.map_some, Option.getD_some] at n1 n2
    exact ⟨E', cf, k, i, f, q1.1, g2, g3, by rw [q2.1]; exact g4, by rw [q2.1]; exact g5, by rw [q2.2.1]; exact g6, by rw [q2.2.2 f.slot (by simp [n1, n2])]; exact g7⟩
end StrChars.Road
namespace StrChars.Road
open Jvm Sem ClassFile Op Lib Jvm.Stand Jvm.Free Jvm.Free.XT
/-- WHAT COMES BACK, the byte[] as a list of values -/
def QA (Z : State) (x : Addr) (zn : Int32) (cs : List Int32) (h : Heap) (v : Option Value) (h' : Heap) (L : List Loc) : Prop := v = none ∧ (∀ y ∈ L, y.base = x) ∧ RoadKit.Keep h h' [x] ∧ h'.size = h.size + 1 ∧ RoadKit.Exa Z h' x ST ∧ RoadKit.Fld Z h' x ST "value" "[B" (.ref h.size) ∧ RoadKit.Fld Z h' x ST "coder" "B" (.int 0) ∧
  (∃ kb, Z.vm.findClass "[B" = some kb ∧ RoadKit.Arv Z h' h.size kb .byte zn (cs.map fun c => .int (lo8 c)) (.int 0)) ∧
  ∀ (O n d : String) (w : Value), RoadKit.Fld Z h x O n d w → RoadKit.slotOf Z O n d ≠ RoadKit.slotOf Z ST "value" "[B" → RoadKit.slotOf Z O n d ≠ RoadKit.slotOf Z ST "coder" "B" → RoadKit.Fld Z h' x O n d w
/-- **new String(chars) AT A CALL, THE ARRAYS AS LISTS**: the char[] at b holds cs, not empty, no char above 255 -/
theorem backArv {p : Program} {l : Launch} {e : Env} {R : Room} {s : State} {args : Array Value} {below : List Frame} {len W : Nat} {Z : State} {a0 : Array Value} {h : Heap} (hZ : Z.Warmed39 s.vm) (hw : ∀ d ∈ words, d.before a0 Z = true) {kI : Nat} (wi : (Jvm.Cond.instantiable ST kI).before a0 Z = true)
    {x b : Addr} {k : ClassId} {zn z : Int32} {cs : List Int32} {dv v0 c0 : Value} (E : RoadKit.Exa Z h x ST) (V : RoadKit.Fld Z h x ST "value" "[B" v0) (C : RoadKit.Fld Z h x ST "coder" "B" c0) (K : RoadKit.Arv Z h b k .char zn (cs.map Value.int) dv) (S : RoadKit.Sta Z h ST "COMPACT_STRINGS" "Z" (.int z)) (hz : ¬ z = 0)
    (hlen : zn.toNatClampNeg = cs.length) (h0 : 0 < cs.length) (hbig : cs.length ≤ 536870912) (hall : ∀ c ∈ cs, ¬ 255 < c) (hfr : 4 ≤ R.frames) (hlo : W + 65 ≤ R.locals) :
    Back l R p e below s args New1.yN len W (fun P a => a = #[.ref x, .ref b] ∧ P.U.heap = h ∧ P.cells + 1 ≤ R.cells ∧ P.slots + cs.length ≤ R.slots)
      (fun P _ v B => ∃ L, QA Z x zn cs h v B.U.heap L ∧ B.locs = P.locs ++ L ∧ B.cells = P.cells + 1 ∧ B.slots = P.slots + cs.length) := by
  obtain ⟨A, K1, K2, K3, K4, K5, K6⟩ := K
  have e : A.slots.size = cs.length := K3.trans hlen
  have hat : ∀ (i : Nat) (hi : i < cs.length), A.slots[i]? = some (.int cs[i]) := fun i hi => by rw [K5 i (by omega)]; simp [List.getD_eq_getElem?_getD, hi]
  have hcv : ∀ (i : Nat) (hi : i < cs.length), cv A i = cs[i] := fun i hi => by unfold cv; rw [hat i hi]
  have hty : Typed .char A := fun i v hv => by
    have hi : i < A.slots.size := (Array.getElem?_eq_some_iff.mp hv).1
    have q := K5 i hi
    rw [hv] at q
    rw [Option.some.inj q]
    exact K6 i hi
  refine Back.mono (back hZ hw wi E V C K1 hty S hz (by omega) (by omega) (fun i hi => by rw [hcv i (by omega)]; exact hall _ (List.getElem_mem _)) hfr hlo) (fun P a hp => ⟨hp.1, hp.2.1, hp.2.2.1, by rw [e]; exact hp.2.2.2⟩) (fun P a v B hp hq => ?_)
  obtain ⟨L, ⟨q1, q2, q3, q4, q5, q6, q7, ⟨V', v1, v2, v3, v4, v5⟩, q9⟩, hl, hc, hs⟩ := hq
  refine ⟨L, ⟨q1, q2, q3, q4, q5, q6, q7, ⟨V'.cls, v3, V', v1, rfl, by rw [v4, e, hlen], K4, fun i hi => ?_, fun i hi => ?_⟩, q9⟩, hl, hc, by rw [hs, e]⟩
  · have hi' : i < cs.length := by omega
    rw [v5 i (by omega), hcv i hi']; simp [List.getD_eq_getElem?_getD, hi']
  · have hi' : i < cs.length := by omega
    simp only [List.getD_eq_getElem?_getD, List.getElem?_map, List.getElem?_eq_getElem hi', Option.map_some, Option.getD_some]
    exact fits_lo8 _
end StrChars.Road
namespace StrChars.Road
open Jvm Sem ClassFile Op Lib Jvm.Stand Jvm.Free Jvm.Free.XT
/-- WHAT COMES BACK, in the writer's own shape -/
def QV (Z : State) (x : Addr) (N : Int32) (bs : List Int32) (h : Heap) (n0 : Nat) (v : Option Value) (h' : Heap) (L : List Loc) : Prop := v = none ∧ RoadKit.Fr n0 L ∧ RoadKit.Keep h h' [x] ∧ RoadKit.Exa Z h' x ST ∧ RoadKit.Fld Z h' x ST "coder" "B" (.int 0) ∧
  ∃ (t : Addr) (kb : ClassId), n0 ≤ t ∧ h.size ≤ t ∧ ¬ t = x ∧ RoadKit.Fld Z h' x ST "value" "[B" (.ref t) ∧ RoadKit.Arv Z h' t kb .byte N (bs.map Value.int) (.int 0)
/-- **new String(chars) AT A CALL, FOR THE WRITER**: a char[] of n known ints, each 0 to 255 -/
theorem backV {p : Program} {l : Launch} {e : Env} {R : Room} {s : State} {args : Array Value} {below : List Frame} {len W : Nat} {Z : State} {a0 : Array Value} {h : Heap} (hZ : Z.Warmed39 s.vm) (hw : ∀ d ∈ words, d.before a0 Z = true) {kI : Nat} (wi : (Jvm.Cond.instantiable ST kI).before a0 Z = true)
    {x b : Addr} {kC : ClassId} {cs bs : List Int32} {d v0 c0 : Value} {z N : Int32} {n n0 : Nat} (hx0 : n0 ≤ x) (hh0 : n0 ≤ h.size) (E : RoadKit.Exa Z h x ST) (V : RoadKit.Fld Z h x ST "value" "[B" v0) (C : RoadKit.Fld Z h x ST "coder" "B" c0) (K : RoadKit.Arv Z h b kC .char N (cs.map Value.int) d) (S : RoadKit.Sta Z h ST "COMPACT_STRINGS" "Z" (.int z)) (hz : ¬ z = 0)
    (hn : cs.length = n) (hN : N = Int32.ofNat n) (l0 : 0 < n) (l2 : n ≤ 4000) (hp : ∀ c ∈ cs, ¬ c < 0 ∧ ¬ (255 : Int32) < c) (hb : bs = cs.map (fun c => c.toInt8.toInt32)) (hfr : 4 ≤ R.frames) (hlo : W + 65 ≤ R.locals) :
    Back l R p e below s args (⟨"java/lang/String", "<init>", "([C)V"⟩ : MethodName) len W (fun P a => a = #[.ref x, .ref b] ∧ P.U.heap = h ∧ P.cells + 1 ≤ R.cells ∧ P.slots + n ≤ R.slots)
      (fun P _ v B => ∃ L, QV Z x N bs h n0 v B.U.heap L ∧ B.locs = P.locs ++ L ∧ B.cells = P.cells + 1 ∧ B.slots = P.slots + n) := by
  subst hn hN hb
  refine Back.mono (backArv hZ hw wi E V C K S hz (n32 (by omega)) l0 (by omega) (fun c hc => (hp c hc).2) hfr hlo) (fun P a hp => hp) (fun P a v B hp hq => ?_)
  obtain ⟨L, ⟨q1, q2, q3, q4, q5, q6, q7, ⟨kb, v1, v2⟩, q9⟩, hl, hc, hs⟩ := hq
  exact ⟨L, ⟨q1, fun y hy => by rw [q2 y hy]; exact hx0, q3, q5, q7, h.size, kb, hh0, Nat.le_refl _, Nat.ne_of_gt E.lt, q6, by rw [List.map_map]; exact v2⟩, hl, hc, hs⟩
end StrChars.Road
end Jvm.Pilot.@@N@@

namespace Jvm.Pilot.@@N@@
open Jvm Jvm.ClassFile Sem Op Lib Jvm.Free Jvm.Stand Jvm.LawKit Jvm.RoadKit Bundle Jvm.Pilot.@@N@@.Jvm.D

def own_type (t0 t1 t2 t3 t4 t5 t6 t7 t8 t9 t10 t11 : Addr) (k : Int32) : Value := if k = 0 then .ref t0 else if k = 1 then .ref t1 else if k = 2 then .ref t2 else if k = 3 then .ref t3 else if k = 4 then .ref t4 else if k = 5 then .ref t5 else if k = 6 then .ref t6 else if k = 7 then .ref t7 else if k = 8 then .ref t8 else if k = 9 then .ref t9 else if k = 10 then .ref t10 else if k = 11 then .ref t11 else .null
def own_S (Z : State) (h : Heap) (t0 t1 t2 t3 t4 t5 t6 t7 t8 t9 t10 t11 : Addr) : Prop := Sta Z h "com/example/rungsight/rungsight/types/IntegerType" "SINT" "Lcom/example/rungsight/rungsight/types/IntegerType;" (.ref t0) ∧ Sta Z h "com/example/rungsight/rungsight/types/IntegerType" "INT" "Lcom/example/rungsight/rungsight/types/IntegerType;" (.ref t1) ∧ Sta Z h "com/example/rungsight/rungsight/types/IntegerType" "DINT" "Lcom/example/rungsight/rungsight/types/IntegerType;" (.ref t2) ∧ Sta Z h "com/example/rungsight/rungsight/types/IntegerType" "LINT" "Lcom/example/rungsight/rungsight/types/IntegerType;" (.ref t3) ∧ Sta Z h "com/example/rungsight/rungsight/types/IntegerType" "USINT" "Lcom/example/rungsight/rungsight/types/IntegerType;" (.ref t4) ∧ Sta Z h "com/example/rungsight/rungsight/types/IntegerType" "UINT" "Lcom/example/rungsight/rungsight/types/IntegerType;" (.ref t5) ∧ Sta Z h "com/example/rungsight/rungsight/types/IntegerType" "UDINT" "Lcom/example/rungsight/rungsight/types/IntegerType;" (.ref t6) ∧ Sta Z h "com/example/rungsight/rungsight/types/IntegerType" "ULINT" "Lcom/example/rungsight/rungsight/types/IntegerType;" (.ref t7) ∧ Sta Z h "com/example/rungsight/rungsight/types/IntegerType" "BYTE" "Lcom/example/rungsight/rungsight/types/IntegerType;" (.ref t8) ∧ Sta Z h "com/example/rungsight/rungsight/types/IntegerType" "WORD" "Lcom/example/rungsight/rungsight/types/IntegerType;" (.ref t9) ∧ Sta Z h "com/example/rungsight/rungsight/types/IntegerType" "DWORD" "Lcom/example/rungsight/rungsight/types/IntegerType;" (.ref t10) ∧ Sta Z h "com/example/rungsight/rungsight/types/IntegerType" "LWORD" "Lcom/example/rungsight/rungsight/types/IntegerType;" (.ref t11)
def own_O (Z : State) (h : Heap) (o0 o1 o2 o3 o4 : Addr) : Prop := Sta Z h "com/example/rungsight/rungsight/flow/Variable$Origin" "DECLARED" "Lcom/example/rungsight/rungsight/flow/Variable$Origin;" (.ref o0) ∧ Sta Z h "com/example/rungsight/rungsight/flow/Variable$Origin" "RESULT" "Lcom/example/rungsight/rungsight/flow/Variable$Origin;" (.ref o1) ∧ Sta Z h "com/example/rungsight/rungsight/flow/Variable$Origin" "INSTANCE" "Lcom/example/rungsight/rungsight/flow/Variable$Origin;" (.ref o2) ∧ Sta Z h "com/example/rungsight/rungsight/flow/Variable$Origin" "GLOBAL" "Lcom/example/rungsight/rungsight/flow/Variable$Origin;" (.ref o3) ∧ Sta Z h "com/example/rungsight/rungsight/flow/Variable$Origin" "CURRENT_RESULT" "Lcom/example/rungsight/rungsight/flow/Variable$Origin;" (.ref o4)
theorem own_S_ext {Z : State} {h h' : Heap} {t0 t1 t2 t3 t4 t5 t6 t7 t8 t9 t10 t11 : Addr} (E : Ext h h') (H : own_S Z h t0 t1 t2 t3 t4 t5 t6 t7 t8 t9 t10 t11) : own_S Z h' t0 t1 t2 t3 t4 t5 t6 t7 t8 t9 t10 t11 := by
  obtain ⟨S0, S1, S2, S3, S4, S5, S6, S7, S8, S9, S10, S11⟩ := H
  exact ⟨S0.ext E, S1.ext E, S2.ext E, S3.ext E, S4.ext E, S5.ext E, S6.ext E, S7.ext E, S8.ext E, S9.ext E, S10.ext E, S11.ext E⟩
theorem own_O_ext {Z : State} {h h' : Heap} {o0 o1 o2 o3 o4 : Addr} (E : Ext h h') (H : own_O Z h o0 o1 o2 o3 o4) : own_O Z h' o0 o1 o2 o3 o4 := by
  obtain ⟨S0, S1, S2, S3, S4⟩ := H
  exact ⟨S0.ext E, S1.ext E, S2.ext E, S3.ext E, S4.ext E⟩
theorem own_type_ref (t0 t1 t2 t3 t4 t5 t6 t7 t8 t9 t10 t11 : Addr) (k : Int32) : (own_type t0 t1 t2 t3 t4 t5 t6 t7 t8 t9 t10 t11 k).isRef = true := by
  unfold own_type
  by_cases q0 : k = 0
  · rw [if_pos q0]; rfl
  rw [if_neg q0]
  by_cases q1 : k = 1
  · rw [if_pos q1]; rfl
  rw [if_neg q1]
  by_cases q2 : k = 2
  · rw [if_pos q2]; rfl
  rw [if_neg q2]
  by_cases q3 : k = 3
  · rw [if_pos q3]; rfl
  rw [if_neg q3]
  by_cases q4 : k = 4
  · rw [if_pos q4]; rfl
  rw [if_neg q4]
  by_cases q5 : k = 5
  · rw [if_pos q5]; rfl
  rw [if_neg q5]
  by_cases q6 : k = 6
  · rw [if_pos q6]; rfl
  rw [if_neg q6]
  by_cases q7 : k = 7
  · rw [if_pos q7]; rfl
  rw [if_neg q7]
  by_cases q8 : k = 8
  · rw [if_pos q8]; rfl
  rw [if_neg q8]
  by_cases q9 : k = 9
  · rw [if_pos q9]; rfl
  rw [if_neg q9]
  by_cases q10 : k = 10
  · rw [if_pos q10]; rfl
  rw [if_neg q10]
  by_cases q11 : k = 11
  · rw [if_pos q11]; rfl
  rw [if_neg q11]
  rfl
theorem own_type_null {t0 t1 t2 t3 t4 t5 t6 t7 t8 t9 t10 t11 : Addr} (k : Int32) (k0 : 0 ≤ k.toInt) (k1 : k.toInt < 13) : own_type t0 t1 t2 t3 t4 t5 t6 t7 t8 t9 t10 t11 k = .null ↔ k = 12 := by
  unfold own_type
  by_cases q0 : k = 0
  · rw [if_pos q0]
    exact ⟨(fun z => nomatch z), fun z => absurd (q0.symm.trans z) (by decide)⟩
  rw [if_neg q0]
  by_cases q1 : k = 1
  · rw [if_pos q1]
    exact ⟨(fun z => nomatch z), fun z => absurd (q1.symm.trans z) (by decide)⟩
  rw [if_neg q1]
  by_cases q2 : k = 2
  · rw [if_pos q2]
    exact ⟨(fun z => nomatch z), fun z => absurd (q2.symm.trans z) (by decide)⟩
  rw [if_neg q2]
  by_cases q3 : k = 3
  · rw [if_pos q3]
    exact ⟨(fun z => nomatch z), fun z => absurd (q3.symm.trans z) (by decide)⟩
  rw [if_neg q3]
  by_cases q4 : k = 4
  · rw [if_pos q4]
    exact ⟨(fun z => nomatch z), fun z => absurd (q4.symm.trans z) (by decide)⟩
  rw [if_neg q4]
  by_cases q5 : k = 5
  · rw [if_pos q5]
    exact ⟨(fun z => nomatch z), fun z => absurd (q5.symm.trans z) (by decide)⟩
  rw [if_neg q5]
  by_cases q6 : k = 6
  · rw [if_pos q6]
    exact ⟨(fun z => nomatch z), fun z => absurd (q6.symm.trans z) (by decide)⟩
  rw [if_neg q6]
  by_cases q7 : k = 7
  · rw [if_pos q7]
    exact ⟨(fun z => nomatch z), fun z => absurd (q7.symm.trans z) (by decide)⟩
  rw [if_neg q7]
  by_cases q8 : k = 8
  · rw [if_pos q8]
    exact ⟨(fun z => nomatch z), fun z => absurd (q8.symm.trans z) (by decide)⟩
  rw [if_neg q8]
  by_cases q9 : k = 9
  · rw [if_pos q9]
    exact ⟨(fun z => nomatch z), fun z => absurd (q9.symm.trans z) (by decide)⟩
  rw [if_neg q9]
  by_cases q10 : k = 10
  · rw [if_pos q10]
    exact ⟨(fun z => nomatch z), fun z => absurd (q10.symm.trans z) (by decide)⟩
  rw [if_neg q10]
  by_cases q11 : k = 11
  · rw [if_pos q11]
    exact ⟨(fun z => nomatch z), fun z => absurd (q11.symm.trans z) (by decide)⟩
  rw [if_neg q11]
  have r0 : k.toInt ≠ 0 := fun z => q0 (Int32.toInt_inj.mp z)
  have r1 : k.toInt ≠ 1 := fun z => q1 (Int32.toInt_inj.mp z)
  have r2 : k.toInt ≠ 2 := fun z => q2 (Int32.toInt_inj.mp z)
  have r3 : k.toInt ≠ 3 := fun z => q3 (Int32.toInt_inj.mp z)
  have r4 : k.toInt ≠ 4 := fun z => q4 (Int32.toInt_inj.mp z)
  have r5 : k.toInt ≠ 5 := fun z => q5 (Int32.toInt_inj.mp z)
  have r6 : k.toInt ≠ 6 := fun z => q6 (Int32.toInt_inj.mp z)
  have r7 : k.toInt ≠ 7 := fun z => q7 (Int32.toInt_inj.mp z)
  have r8 : k.toInt ≠ 8 := fun z => q8 (Int32.toInt_inj.mp z)
  have r9 : k.toInt ≠ 9 := fun z => q9 (Int32.toInt_inj.mp z)
  have r10 : k.toInt ≠ 10 := fun z => q10 (Int32.toInt_inj.mp z)
  have r11 : k.toInt ≠ 11 := fun z => q11 (Int32.toInt_inj.mp z)
  exact ⟨fun _ => Int32.toInt_inj.mp (by show k.toInt = 12; omega), fun _ => rfl⟩
theorem own_rng (x d : Int32) (hd : 0 < d.toInt) : 0 ≤ ((x &&& (2147483647 : Int32)) % d).toInt ∧ ((x &&& (2147483647 : Int32)) % d).toInt < d.toInt := by
  have h1 := (c_and x 2147483647 (by decide)).1
  have h2 := (c_iremV (x &&& 2147483647) d).1 h1 hd
  exact ⟨h2.1, h2.2.1⟩
theorem d1_0 : decode method_2_code 0 = .ok (.iload_n 0, 1) := by decide +kernel
theorem d1_1 : decode method_2_code 1 = .ok (.ifCond .ne 7, 3) := by decide +kernel
theorem d1_4 : decode method_2_code 4 = .ok (.getstatic 7, 3) := by decide +kernel
theorem d1_7 : decode method_2_code 7 = .ok (.areturn, 1) := by decide +kernel
theorem d1_8 : decode method_2_code 8 = .ok (.iload_n 0, 1) := by decide +kernel
theorem d1_9 : decode method_2_code 9 = .ok (.iconst 1, 1) := by decide +kernel
theorem d1_10 : decode method_2_code 10 = .ok (.if_icmp .ne 7, 3) := by decide +kernel
theorem d1_13 : decode method_2_code 13 = .ok (.getstatic 13, 3) := by decide +kernel
theorem d1_16 : decode method_2_code 16 = .ok (.areturn, 1) := by decide +kernel
theorem d1_17 : decode method_2_code 17 = .ok (.iload_n 0, 1) := by decide +kernel
theorem d1_18 : decode method_2_code 18 = .ok (.iconst 2, 1) := by decide +kernel
theorem d1_19 : decode method_2_code 19 = .ok (.if_icmp .ne 7, 3) := by decide +kernel
theorem d1_22 : decode method_2_code 22 = .ok (.getstatic 16, 3) := by decide +kernel
theorem d1_25 : decode method_2_code 25 = .ok (.areturn, 1) := by decide +kernel
theorem d1_26 : decode method_2_code 26 = .ok (.iload_n 0, 1) := by decide +kernel
theorem d1_27 : decode method_2_code 27 = .ok (.iconst 3, 1) := by decide +kernel
theorem d1_28 : decode method_2_code 28 = .ok (.if_icmp .ne 7, 3) := by decide +kernel
theorem d1_31 : decode method_2_code 31 = .ok (.getstatic 19, 3) := by decide +kernel
theorem d1_34 : decode method_2_code 34 = .ok (.areturn, 1) := by decide +kernel
theorem d1_35 : decode method_2_code 35 = .ok (.iload_n 0, 1) := by decide +kernel
theorem d1_36 : decode method_2_code 36 = .ok (.iconst 4, 1) := by decide +kernel
theorem d1_37 : decode method_2_code 37 = .ok (.if_icmp .ne 7, 3) := by decide +kernel
theorem d1_40 : decode method_2_code 40 = .ok (.getstatic 22, 3) := by decide +kernel
theorem d1_43 : decode method_2_code 43 = .ok (.areturn, 1) := by decide +kernel
theorem d1_44 : decode method_2_code 44 = .ok (.iload_n 0, 1) := by decide +kernel
theorem d1_45 : decode method_2_code 45 = .ok (.iconst 5, 1) := by decide +kernel
theorem d1_46 : decode method_2_code 46 = .ok (.if_icmp .ne 7, 3) := by decide +kernel
theorem d1_49 : decode method_2_code 49 = .ok (.getstatic 25, 3) := by decide +kernel
theorem d1_52 : decode method_2_code 52 = .ok (.areturn, 1) := by decide +kernel
theorem d1_53 : decode method_2_code 53 = .ok (.iload_n 0, 1) := by decide +kernel
theorem d1_54 : decode method_2_code 54 = .ok (.bipush 6, 2) := by decide +kernel
theorem d1_56 : decode method_2_code 56 = .ok (.if_icmp .ne 7, 3) := by decide +kernel
theorem d1_59 : decode method_2_code 59 = .ok (.getstatic 28, 3) := by decide +kernel
theorem d1_62 : decode method_2_code 62 = .ok (.areturn, 1) := by decide +kernel
theorem d1_63 : decode method_2_code 63 = .ok (.iload_n 0, 1) := by decide +kernel
theorem d1_64 : decode method_2_code 64 = .ok (.bipush 7, 2) := by decide +kernel
theorem d1_66 : decode method_2_code 66 = .ok (.if_icmp .ne 7, 3) := by decide +kernel
theorem d1_69 : decode method_2_code 69 = .ok (.getstatic 31, 3) := by decide +kernel
theorem d1_72 : decode method_2_code 72 = .ok (.areturn, 1) := by decide +kernel
theorem d1_73 : decode method_2_code 73 = .ok (.iload_n 0, 1) := by decide +kernel
theorem d1_74 : decode method_2_code 74 = .ok (.bipush 8, 2) := by decide +kernel
theorem d1_76 : decode method_2_code 76 = .ok (.if_icmp .ne 7, 3) := by decide +kernel
theorem d1_79 : decode method_2_code 79 = .ok (.getstatic 34, 3) := by decide +kernel
theorem d1_82 : decode method_2_code 82 = .ok (.areturn, 1) := by decide +kernel
theorem d1_83 : decode method_2_code 83 = .ok (.iload_n 0, 1) := by decide +kernel
theorem d1_84 : decode method_2_code 84 = .ok (.bipush 9, 2) := by decide +kernel
theorem d1_86 : decode method_2_code 86 = .ok (.if_icmp .ne 7, 3) := by decide +kernel
theorem d1_89 : decode method_2_code 89 = .ok (.getstatic 37, 3) := by decide +kernel
theorem d1_92 : decode method_2_code 92 = .ok (.areturn, 1) := by decide +kernel
theorem d1_93 : decode method_2_code 93 = .ok (.iload_n 0, 1) := by decide +kernel
theorem d1_94 : decode method_2_code 94 = .ok (.bipush 10, 2) := by decide +kernel
theorem d1_96 : decode method_2_code 96 = .ok (.if_icmp .ne 7, 3) := by decide +kernel
theorem d1_99 : decode method_2_code 99 = .ok (.getstatic 40, 3) := by decide +kernel
theorem d1_102 : decode method_2_code 102 = .ok (.areturn, 1) := by decide +kernel
theorem d1_103 : decode method_2_code 103 = .ok (.iload_n 0, 1) := by decide +kernel
theorem d1_104 : decode method_2_code 104 = .ok (.bipush 11, 2) := by decide +kernel
theorem d1_106 : decode method_2_code 106 = .ok (.if_icmp .ne 7, 3) := by decide +kernel
theorem d1_109 : decode method_2_code 109 = .ok (.getstatic 43, 3) := by decide +kernel
theorem d1_112 : decode method_2_code 112 = .ok (.areturn, 1) := by decide +kernel
theorem d1_113 : decode method_2_code 113 = .ok (.aconst_null, 1) := by decide +kernel
theorem d1_114 : decode method_2_code 114 = .ok (.areturn, 1) := by decide +kernel
set_option maxRecDepth 65536 in
set_option maxHeartbeats 40000000 in
theorem own_type_con (l : Launch) (Z : State) (a0 : Array Value) (hw : ∀ d ∈ tables_1, d.before a0 Z = true) (h0 : Heap) (t0 t1 t2 t3 t4 t5 t6 t7 t8 t9 t10 t11 : Addr) (hS : own_S Z h0 t0 t1 t2 t3 t4 t5 t6 t7 t8 t9 t10 t11) (k : Int32) :
    Con [] l Z (⟨"com/example/rungsight/rungsight/flow/VariableIsIntegerPinLaw", "typeOf", "(I)Lcom/example/rungsight/rungsight/types/IntegerType;"⟩ : MethodName) method_2_code 1 (Option.some (Jvm.ClassFile.FieldType.object "com/example/rungsight/rungsight/types/IntegerType")) ({ frames := 0, cells := 0, slots := 0, locals := 0 } : Room) #[(.int k)] h0 (fun v h L => v = some (own_type t0 t1 t2 t3 t4 t5 t6 t7 t8 t9 t10 t11 k) ∧ L = [] ∧ h = h0) := by
  refine Con.of (Ls := #[.val (.int k)]) (by first | exact plainFor_of_name (by first | (simp [plainName, overriddenIn]; done) | decide +kernel) | decide +kernel) (fun m => by first | (simp [entryFrame, mkF, argsToLocals, Value.category]; done) | (simp [entryFrame, mkF, argsToLocals, Value.category, maxLocals]; done) | rfl) ?_
  intro p e s m below meth c T0 hx hby hml hown hnm hret hlk hZ e0 X0
  obtain ⟨S0, S1, S2, S3, S4, S5, S6, S7, S8, S9, S10, S11⟩ := hS
  refine Gl.st (U' := (T0.setTop (mkF m 1 #[.val (.int k)] [(.int k)]))) (fun _ zz => XS.iloadN X0.here hx rfl (hb hby d1_0) rfl zz) ?_
  by_cases q0 : k = (0 : Int32)
  · refine Gl.st (U' := (T0.setTop (mkF m 4 #[.val (.int k)] []))) (fun _ zz => XS.ifNo X0.here hx rfl (hb hby d1_1) rfl ((if0 _ _).trans (teq q0).2) zz) ?_
    obtain ⟨Tt1, Xt1, et1, stt1⟩ := getS2 X0 hx hZ hown (host := "") (Or.inl (hw _ (List.mem_of_getElem? (i := 5) rfl))) Via.refl e0 S0 (g := (mkF m 4 #[.val (.int k)] [])) rfl (hb hby d1_4)
    refine Gl.st (U' := (Tt1.setTop (mkF m 7 #[.val (.int k)] [(.ref t0)]))) stt1 ?_
    exact Gl.retA Xt1 hx hret rfl hlk rfl (hb hby d1_7) ⟨by unfold own_type; rw [if_pos q0], rfl, et1⟩ (by decide) (by decide)
  · refine Gl.st (U' := (T0.setTop (mkF m 8 #[.val (.int k)] []))) (fun _ zz => XS.ifYes X0.here hx rfl (pc0 := 1) (pc' := 8) rfl (hb hby d1_1) rfl ((if0 _ _).trans (feq q0).2) (by decide) (by decide) zz) ?_
    refine Gl.st (U' := (T0.setTop (mkF m 9 #[.val (.int k)] [(.int k)]))) (fun _ zz => XS.iloadN X0.here hx rfl (hb hby d1_8) rfl zz) ?_
    refine Gl.st (U' := (T0.setTop (mkF m 10 #[.val (.int k)] [(.int (1 : Int32)), (.int k)]))) (fun _ zz => XS.iconst X0.here hx rfl (hb hby d1_9) zz) ?_
    by_cases q1 : k = (1 : Int32)
    · refine Gl.st (U' := (T0.setTop (mkF m 13 #[.val (.int k)] []))) (fun _ zz => XS.icmpNo X0.here hx rfl (hb hby d1_10) rfl (teq q1).2 zz) ?_
      obtain ⟨Tt2, Xt2, et2, stt2⟩ := getS2 X0 hx hZ hown (host := "") (Or.inl (hw _ (List.mem_of_getElem? (i := 99) rfl))) Via.refl e0 S1 (g := (mkF m 13 #[.val (.int k)] [])) rfl (hb hby d1_13)
      refine Gl.st (U' := (Tt2.setTop (mkF m 16 #[.val (.int k)] [(.ref t1)]))) stt2 ?_
      exact Gl.retA Xt2 hx hret rfl hlk rfl (hb hby d1_16) ⟨by unfold own_type; rw [if_neg q0, if_pos q1], rfl, et2⟩ (by decide) (by decide)
    · refine Gl.st (U' := (T0.setTop (mkF m 17 #[.val (.int k)] []))) (fun _ zz => XS.icmpYes X0.here hx rfl (pc0 := 10) (pc' := 17) rfl (hb hby d1_10) rfl (feq q1).2 (by decide) (by decide) zz) ?_
      refine Gl.st (U' := (T0.setTop (mkF m 18 #[.val (.int k)] [(.int k)]))) (fun _ zz => XS.iloadN X0.here hx rfl (hb hby d1_17) rfl zz) ?_
      refine Gl.st (U' := (T0.setTop (mkF m 19 #[.val (.int k)] [(.int (2 : Int32)), (.int k)]))) (fun _ zz => XS.iconst X0.here hx rfl (hb hby d1_18) zz) ?_
      by_cases q2 : k = (2 : Int32)
      · refine Gl.st (U' := (T0.setTop (mkF m 22 #[.val (.int k)] []))) (fun _ zz => XS.icmpNo X0.here hx rfl (hb hby d1_19) rfl (teq q2).2 zz) ?_
        obtain ⟨Tt3, Xt3, et3, stt3⟩ := getS2 X0 hx hZ hown (host := "") (Or.inl (hw _ (List.mem_of_getElem? (i := 85) rfl))) Via.refl e0 S2 (g := (mkF m 22 #[.val (.int k)] [])) rfl (hb hby d1_22)
        refine Gl.st (U' := (Tt3.setTop (mkF m 25 #[.val (.int k)] [(.ref t2)]))) stt3 ?_
        exact Gl.retA Xt3 hx hret rfl hlk rfl (hb hby d1_25) ⟨by unfold own_type; rw [if_neg q0, if_neg q1, if_pos q2], rfl, et3⟩ (by decide) (by decide)
      · refine Gl.st (U' := (T0.setTop (mkF m 26 #[.val (.int k)] []))) (fun _ zz => XS.icmpYes X0.here hx rfl (pc0 := 19) (pc' := 26) rfl (hb hby d1_19) rfl (feq q2).2 (by decide) (by decide) zz) ?_
        refine Gl.st (U' := (T0.setTop (mkF m 27 #[.val (.int k)] [(.int k)]))) (fun _ zz => XS.iloadN X0.here hx rfl (hb hby d1_26) rfl zz) ?_
        refine Gl.st (U' := (T0.setTop (mkF m 28 #[.val (.int k)] [(.int (3 : Int32)), (.int k)]))) (fun _ zz => XS.iconst X0.here hx rfl (hb hby d1_27) zz) ?_
        by_cases q3 : k = (3 : Int32)
        · refine Gl.st (U' := (T0.setTop (mkF m 31 #[.val (.int k)] []))) (fun _ zz => XS.icmpNo X0.here hx rfl (hb hby d1_28) rfl (teq q3).2 zz) ?_
          obtain ⟨Tt4, Xt4, et4, stt4⟩ := getS2 X0 hx hZ hown (host := "") (Or.inl (hw _ (List.mem_of_getElem? (i := 101) rfl))) Via.refl e0 S3 (g := (mkF m 31 #[.val (.int k)] [])) rfl (hb hby d1_31)
          refine Gl.st (U' := (Tt4.setTop (mkF m 34 #[.val (.int k)] [(.ref t3)]))) stt4 ?_
          exact Gl.retA Xt4 hx hret rfl hlk rfl (hb hby d1_34) ⟨by unfold own_type; rw [if_neg q0, if_neg q1, if_neg q2, if_pos q3], rfl, et4⟩ (by decide) (by decide)
        · refine Gl.st (U' := (T0.setTop (mkF m 35 #[.val (.int k)] []))) (fun _ zz => XS.icmpYes X0.here hx rfl (pc0 := 28) (pc' := 35) rfl (hb hby d1_28) rfl (feq q3).2 (by decide) (by decide) zz) ?_
          refine Gl.st (U' := (T0.setTop (mkF m 36 #[.val (.int k)] [(.int k)]))) (fun _ zz => XS.iloadN X0.here hx rfl (hb hby d1_35) rfl zz) ?_
          refine Gl.st (U' := (T0.setTop (mkF m 37 #[.val (.int k)] [(.int (4 : Int32)), (.int k)]))) (fun _ zz => XS.iconst X0.here hx rfl (hb hby d1_36) zz) ?_
          by_cases q4 : k = (4 : Int32)
          · refine Gl.st (U' := (T0.setTop (mkF m 40 #[.val (.int k)] []))) (fun _ zz => XS.icmpNo X0.here hx rfl (hb hby d1_37) rfl (teq q4).2 zz) ?_
            obtain ⟨Tt5, Xt5, et5, stt5⟩ := getS2 X0 hx hZ hown (host := "") (Or.inl (hw _ (List.mem_of_getElem? (i := 81) rfl))) Via.refl e0 S4 (g := (mkF m 40 #[.val (.int k)] [])) rfl (hb hby d1_40)
            refine Gl.st (U' := (Tt5.setTop (mkF m 43 #[.val (.int k)] [(.ref t4)]))) stt5 ?_
            exact Gl.retA Xt5 hx hret rfl hlk rfl (hb hby d1_43) ⟨by unfold own_type; rw [if_neg q0, if_neg q1, if_neg q2, if_neg q3, if_pos q4], rfl, et5⟩ (by decide) (by decide)
          · refine Gl.st (U' := (T0.setTop (mkF m 44 #[.val (.int k)] []))) (fun _ zz => XS.icmpYes X0.here hx rfl (pc0 := 37) (pc' := 44) rfl (hb hby d1_37) rfl (feq q4).2 (by decide) (by decide) zz) ?_
            refine Gl.st (U' := (T0.setTop (mkF m 45 #[.val (.int k)] [(.int k)]))) (fun _ zz => XS.iloadN X0.here hx rfl (hb hby d1_44) rfl zz) ?_
            refine Gl.st (U' := (T0.setTop (mkF m 46 #[.val (.int k)] [(.int (5 : Int32)), (.int k)]))) (fun _ zz => XS.iconst X0.here hx rfl (hb hby d1_45) zz) ?_
            by_cases q5 : k = (5 : Int32)
            · refine Gl.st (U' := (T0.setTop (mkF m 49 #[.val (.int k)] []))) (fun _ zz => XS.icmpNo X0.here hx rfl (hb hby d1_46) rfl (teq q5).2 zz) ?_
              obtain ⟨Tt6, Xt6, et6, stt6⟩ := getS2 X0 hx hZ hown (host := "") (Or.inl (hw _ (List.mem_of_getElem? (i := 109) rfl))) Via.refl e0 S5 (g := (mkF m 49 #[.val (.int k)] [])) rfl (hb hby d1_49)
              refine Gl.st (U' := (Tt6.setTop (mkF m 52 #[.val (.int k)] [(.ref t5)]))) stt6 ?_
              exact Gl.retA Xt6 hx hret rfl hlk rfl (hb hby d1_52) ⟨by unfold own_type; rw [if_neg q0, if_neg q1, if_neg q2, if_neg q3, if_neg q4, if_pos q5], rfl, et6⟩ (by decide) (by decide)
            · refine Gl.st (U' := (T0.setTop (mkF m 53 #[.val (.int k)] []))) (fun _ zz => XS.icmpYes X0.here hx rfl (pc0 := 46) (pc' := 53) rfl (hb hby d1_46) rfl (feq q5).2 (by decide) (by decide) zz) ?_
              refine Gl.st (U' := (T0.setTop (mkF m 54 #[.val (.int k)] [(.int k)]))) (fun _ zz => XS.iloadN X0.here hx rfl (hb hby d1_53) rfl zz) ?_
              refine Gl.st (U' := (T0.setTop (mkF m 56 #[.val (.int k)] [(.int (6 : Int32)), (.int k)]))) (fun _ zz => XS.bipush X0.here hx rfl (hb hby d1_54) zz) ?_
              by_cases q6 : k = (6 : Int32)
              · refine Gl.st (U' := (T0.setTop (mkF m 59 #[.val (.int k)] []))) (fun _ zz => XS.icmpNo X0.here hx rfl (hb hby d1_56) rfl (teq q6).2 zz) ?_
                obtain ⟨Tt7, Xt7, et7, stt7⟩ := getS2 X0 hx hZ hown (host := "") (Or.inl (hw _ (List.mem_of_getElem? (i := 91) rfl))) Via.refl e0 S6 (g := (mkF m 59 #[.val (.int k)] [])) rfl (hb hby d1_59)
                refine Gl.st (U' := (Tt7.setTop (mkF m 62 #[.val (.int k)] [(.ref t6)]))) stt7 ?_
                exact Gl.retA Xt7 hx hret rfl hlk rfl (hb hby d1_62) ⟨by unfold own_type; rw [if_neg q0, if_neg q1, if_neg q2, if_neg q3, if_neg q4, if_neg q5, if_pos q6], rfl, et7⟩ (by decide) (by decide)
              · refine Gl.st (U' := (T0.setTop (mkF m 63 #[.val (.int k)] []))) (fun _ zz => XS.icmpYes X0.here hx rfl (pc0 := 56) (pc' := 63) rfl (hb hby d1_56) rfl (feq q6).2 (by decide) (by decide) zz) ?_
                refine Gl.st (U' := (T0.setTop (mkF m 64 #[.val (.int k)] [(.int k)]))) (fun _ zz => XS.iloadN X0.here hx rfl (hb hby d1_63) rfl zz) ?_
                refine Gl.st (U' := (T0.setTop (mkF m 66 #[.val (.int k)] [(.int (7 : Int32)), (.int k)]))) (fun _ zz => XS.bipush X0.here hx rfl (hb hby d1_64) zz) ?_
                by_cases q7 : k = (7 : Int32)
                · refine Gl.st (U' := (T0.setTop (mkF m 69 #[.val (.int k)] []))) (fun _ zz => XS.icmpNo X0.here hx rfl (hb hby d1_66) rfl (teq q7).2 zz) ?_
                  obtain ⟨Tt8, Xt8, et8, stt8⟩ := getS2 X0 hx hZ hown (host := "") (Or.inl (hw _ (List.mem_of_getElem? (i := 107) rfl))) Via.refl e0 S7 (g := (mkF m 69 #[.val (.int k)] [])) rfl (hb hby d1_69)
                  refine Gl.st (U' := (Tt8.setTop (mkF m 72 #[.val (.int k)] [(.ref t7)]))) stt8 ?_
                  exact Gl.retA Xt8 hx hret rfl hlk rfl (hb hby d1_72) ⟨by unfold own_type; rw [if_neg q0, if_neg q1, if_neg q2, if_neg q3, if_neg q4, if_neg q5, if_neg q6, if_pos q7], rfl, et8⟩ (by decide) (by decide)
                · refine Gl.st (U' := (T0.setTop (mkF m 73 #[.val (.int k)] []))) (fun _ zz => XS.icmpYes X0.here hx rfl (pc0 := 66) (pc' := 73) rfl (hb hby d1_66) rfl (feq q7).2 (by decide) (by decide) zz) ?_
                  refine Gl.st (U' := (T0.setTop (mkF m 74 #[.val (.int k)] [(.int k)]))) (fun _ zz => XS.iloadN X0.here hx rfl (hb hby d1_73) rfl zz) ?_
                  refine Gl.st (U' := (T0.setTop (mkF m 76 #[.val (.int k)] [(.int (8 : Int32)), (.int k)]))) (fun _ zz => XS.bipush X0.here hx rfl (hb hby d1_74) zz) ?_
                  by_cases q8 : k = (8 : Int32)
                  · refine Gl.st (U' := (T0.setTop (mkF m 79 #[.val (.int k)] []))) (fun _ zz => XS.icmpNo X0.here hx rfl (hb hby d1_76) rfl (teq q8).2 zz) ?_
                    obtain ⟨Tt9, Xt9, et9, stt9⟩ := getS2 X0 hx hZ hown (host := "") (Or.inl (hw _ (List.mem_of_getElem? (i := 89) rfl))) Via.refl e0 S8 (g := (mkF m 79 #[.val (.int k)] [])) rfl (hb hby d1_79)
                    refine Gl.st (U' := (Tt9.setTop (mkF m 82 #[.val (.int k)] [(.ref t8)]))) stt9 ?_
                    exact Gl.retA Xt9 hx hret rfl hlk rfl (hb hby d1_82) ⟨by unfold own_type; rw [if_neg q0, if_neg q1, if_neg q2, if_neg q3, if_neg q4, if_neg q5, if_neg q6, if_neg q7, if_pos q8], rfl, et9⟩ (by decide) (by decide)
                  · refine Gl.st (U' := (T0.setTop (mkF m 83 #[.val (.int k)] []))) (fun _ zz => XS.icmpYes X0.here hx rfl (pc0 := 76) (pc' := 83) rfl (hb hby d1_76) rfl (feq q8).2 (by decide) (by decide) zz) ?_
                    refine Gl.st (U' := (T0.setTop (mkF m 84 #[.val (.int k)] [(.int k)]))) (fun _ zz => XS.iloadN X0.here hx rfl (hb hby d1_83) rfl zz) ?_
                    refine Gl.st (U' := (T0.setTop (mkF m 86 #[.val (.int k)] [(.int (9 : Int32)), (.int k)]))) (fun _ zz => XS.bipush X0.here hx rfl (hb hby d1_84) zz) ?_
                    by_cases q9 : k = (9 : Int32)
                    · refine Gl.st (U' := (T0.setTop (mkF m 89 #[.val (.int k)] []))) (fun _ zz => XS.icmpNo X0.here hx rfl (hb hby d1_86) rfl (teq q9).2 zz) ?_
                      obtain ⟨Tt10, Xt10, et10, stt10⟩ := getS2 X0 hx hZ hown (host := "") (Or.inl (hw _ (List.mem_of_getElem? (i := 105) rfl))) Via.refl e0 S9 (g := (mkF m 89 #[.val (.int k)] [])) rfl (hb hby d1_89)
                      refine Gl.st (U' := (Tt10.setTop (mkF m 92 #[.val (.int k)] [(.ref t9)]))) stt10 ?_
                      exact Gl.retA Xt10 hx hret rfl hlk rfl (hb hby d1_92) ⟨by unfold own_type; rw [if_neg q0, if_neg q1, if_neg q2, if_neg q3, if_neg q4, if_neg q5, if_neg q6, if_neg q7, if_neg q8, if_pos q9], rfl, et10⟩ (by decide) (by decide)
                    · refine Gl.st (U' := (T0.setTop (mkF m 93 #[.val (.int k)] []))) (fun _ zz => XS.icmpYes X0.here hx rfl (pc0 := 86) (pc' := 93) rfl (hb hby d1_86) rfl (feq q9).2 (by decide) (by decide) zz) ?_
                      refine Gl.st (U' := (T0.setTop (mkF m 94 #[.val (.int k)] [(.int k)]))) (fun _ zz => XS.iloadN X0.here hx rfl (hb hby d1_93) rfl zz) ?_
                      refine Gl.st (U' := (T0.setTop (mkF m 96 #[.val (.int k)] [(.int (10 : Int32)), (.int k)]))) (fun _ zz => XS.bipush X0.here hx rfl (hb hby d1_94) zz) ?_
                      by_cases q10 : k = (10 : Int32)
                      · refine Gl.st (U' := (T0.setTop (mkF m 99 #[.val (.int k)] []))) (fun _ zz => XS.icmpNo X0.here hx rfl (hb hby d1_96) rfl (teq q10).2 zz) ?_
                        obtain ⟨Tt11, Xt11, et11, stt11⟩ := getS2 X0 hx hZ hown (host := "") (Or.inl (hw _ (List.mem_of_getElem? (i := 97) rfl))) Via.refl e0 S10 (g := (mkF m 99 #[.val (.int k)] [])) rfl (hb hby d1_99)
                        refine Gl.st (U' := (Tt11.setTop (mkF m 102 #[.val (.int k)] [(.ref t10)]))) stt11 ?_
                        exact Gl.retA Xt11 hx hret rfl hlk rfl (hb hby d1_102) ⟨by unfold own_type; rw [if_neg q0, if_neg q1, if_neg q2, if_neg q3, if_neg q4, if_neg q5, if_neg q6, if_neg q7, if_neg q8, if_neg q9, if_pos q10], rfl, et11⟩ (by decide) (by decide)
                      · refine Gl.st (U' := (T0.setTop (mkF m 103 #[.val (.int k)] []))) (fun _ zz => XS.icmpYes X0.here hx rfl (pc0 := 96) (pc' := 103) rfl (hb hby d1_96) rfl (feq q10).2 (by decide) (by decide) zz) ?_
                        refine Gl.st (U' := (T0.setTop (mkF m 104 #[.val (.int k)] [(.int k)]))) (fun _ zz => XS.iloadN X0.here hx rfl (hb hby d1_103) rfl zz) ?_
                        refine Gl.st (U' := (T0.setTop (mkF m 106 #[.val (.int k)] [(.int (11 : Int32)), (.int k)]))) (fun _ zz => XS.bipush X0.here hx rfl (hb hby d1_104) zz) ?_
                        by_cases q11 : k = (11 : Int32)
                        · refine Gl.st (U' := (T0.setTop (mkF m 109 #[.val (.int k)] []))) (fun _ zz => XS.icmpNo X0.here hx rfl (hb hby d1_106) rfl (teq q11).2 zz) ?_
                          obtain ⟨Tt12, Xt12, et12, stt12⟩ := getS2 X0 hx hZ hown (host := "") (Or.inl (hw _ (List.mem_of_getElem? (i := 95) rfl))) Via.refl e0 S11 (g := (mkF m 109 #[.val (.int k)] [])) rfl (hb hby d1_109)
                          refine Gl.st (U' := (Tt12.setTop (mkF m 112 #[.val (.int k)] [(.ref t11)]))) stt12 ?_
                          exact Gl.retA Xt12 hx hret rfl hlk rfl (hb hby d1_112) ⟨by unfold own_type; rw [if_neg q0, if_neg q1, if_neg q2, if_neg q3, if_neg q4, if_neg q5, if_neg q6, if_neg q7, if_neg q8, if_neg q9, if_neg q10, if_pos q11], rfl, et12⟩ (by decide) (by decide)
                        · refine Gl.st (U' := (T0.setTop (mkF m 113 #[.val (.int k)] []))) (fun _ zz => XS.icmpYes X0.here hx rfl (pc0 := 106) (pc' := 113) rfl (hb hby d1_106) rfl (feq q11).2 (by decide) (by decide) zz) ?_
                          refine Gl.st (U' := (T0.setTop (mkF m 114 #[.val (.int k)] [.null]))) (fun _ zz => XS.aconstNull X0.here hx rfl (hb hby d1_113) zz) ?_
                          exact Gl.retA X0 hx hret rfl hlk rfl (hb hby d1_114) ⟨by unfold own_type; rw [if_neg q0, if_neg q1, if_neg q2, if_neg q3, if_neg q4, if_neg q5, if_neg q6, if_neg q7, if_neg q8, if_neg q9, if_neg q10, if_neg q11], rfl, e0⟩ (by decide) (by decide)
theorem d2_0 : decode method_3_code 0 = .ok (.iload_n 0, 1) := by decide +kernel
theorem d2_1 : decode method_3_code 1 = .ok (.ifCond .ne 7, 3) := by decide +kernel
theorem d2_4 : decode method_3_code 4 = .ok (.getstatic 46, 3) := by decide +kernel
theorem d2_7 : decode method_3_code 7 = .ok (.areturn, 1) := by decide +kernel
theorem d2_8 : decode method_3_code 8 = .ok (.iload_n 0, 1) := by decide +kernel
theorem d2_9 : decode method_3_code 9 = .ok (.iconst 1, 1) := by decide +kernel
theorem d2_10 : decode method_3_code 10 = .ok (.if_icmp .ne 7, 3) := by decide +kernel
theorem d2_13 : decode method_3_code 13 = .ok (.getstatic 52, 3) := by decide +kernel
theorem d2_16 : decode method_3_code 16 = .ok (.areturn, 1) := by decide +kernel
theorem d2_17 : decode method_3_code 17 = .ok (.iload_n 0, 1) := by decide +kernel
theorem d2_18 : decode method_3_code 18 = .ok (.iconst 2, 1) := by decide +kernel
theorem d2_19 : decode method_3_code 19 = .ok (.if_icmp .ne 7, 3) := by decide +kernel
theorem d2_22 : decode method_3_code 22 = .ok (.getstatic 55, 3) := by decide +kernel
theorem d2_25 : decode method_3_code 25 = .ok (.areturn, 1) := by decide +kernel
theorem d2_26 : decode method_3_code 26 = .ok (.iload_n 0, 1) := by decide +kernel
theorem d2_27 : decode method_3_code 27 = .ok (.iconst 3, 1) := by decide +kernel
theorem d2_28 : decode method_3_code 28 = .ok (.if_icmp .ne 7, 3) := by decide +kernel
theorem d2_31 : decode method_3_code 31 = .ok (.getstatic 58, 3) := by decide +kernel
theorem d2_34 : decode method_3_code 34 = .ok (.areturn, 1) := by decide +kernel
theorem d2_35 : decode method_3_code 35 = .ok (.getstatic 61, 3) := by decide +kernel
theorem d2_38 : decode method_3_code 38 = .ok (.areturn, 1) := by decide +kernel
set_option maxRecDepth 65536 in
set_option maxHeartbeats 40000000 in
theorem own_orig_con (l : Launch) (Z : State) (a0 : Array Value) (hw : ∀ d ∈ tables_1, d.before a0 Z = true) (h0 : Heap) (o0 o1 o2 o3 o4 : Addr) (hS : own_O Z h0 o0 o1 o2 o3 o4) (k : Int32) :
    Con [] l Z (⟨"com/example/rungsight/rungsight/flow/VariableIsIntegerPinLaw", "originOf", "(I)Lcom/example/rungsight/rungsight/flow/Variable$Origin;"⟩ : MethodName) method_3_code 1 (Option.some (Jvm.ClassFile.FieldType.object "com/example/rungsight/rungsight/flow/Variable$Origin")) ({ frames := 0, cells := 0, slots := 0, locals := 0 } : Room) #[(.int k)] h0 (fun v h L => ∃ r, v = some (.ref r) ∧ L = [] ∧ h = h0) := by
  refine Con.of (Ls := #[.val (.int k)]) (by first | exact plainFor_of_name (by first | (simp [plainName, overriddenIn]; done) | decide +kernel) | decide +kernel) (fun m => by first | (simp [entryFrame, mkF, argsToLocals, Value.category]; done) | (simp [entryFrame, mkF, argsToLocals, Value.category, maxLocals]; done) | rfl) ?_
  intro p e s m below meth c T0 hx hby hml hown hnm hret hlk hZ e0 X0
  obtain ⟨S0, S1, S2, S3, S4⟩ := hS
  refine Gl.st (U' := (T0.setTop (mkF m 1 #[.val (.int k)] [(.int k)]))) (fun _ zz => XS.iloadN X0.here hx rfl (hb hby d2_0) rfl zz) ?_
  by_cases q0 : k = (0 : Int32)
  · refine Gl.st (U' := (T0.setTop (mkF m 4 #[.val (.int k)] []))) (fun _ zz => XS.ifNo X0.here hx rfl (hb hby d2_1) rfl ((if0 _ _).trans (teq q0).2) zz) ?_
    obtain ⟨Tt13, Xt13, et13, stt13⟩ := getS2 X0 hx hZ hown (host := "") (Or.inl (hw _ (List.mem_of_getElem? (i := 83) rfl))) Via.refl e0 S0 (g := (mkF m 4 #[.val (.int k)] [])) rfl (hb hby d2_4)
    refine Gl.st (U' := (Tt13.setTop (mkF m 7 #[.val (.int k)] [(.ref o0)]))) stt13 ?_
    exact Gl.retA Xt13 hx hret rfl hlk rfl (hb hby d2_7) ⟨_, rfl, rfl, et13⟩ (by decide) (by decide)
  · refine Gl.st (U' := (T0.setTop (mkF m 8 #[.val (.int k)] []))) (fun _ zz => XS.ifYes X0.here hx rfl (pc0 := 1) (pc' := 8) rfl (hb hby d2_1) rfl ((if0 _ _).trans (feq q0).2) (by decide) (by decide) zz) ?_
    refine Gl.st (U' := (T0.setTop (mkF m 9 #[.val (.int k)] [(.int k)]))) (fun _ zz => XS.iloadN X0.here hx rfl (hb hby d2_8) rfl zz) ?_
    refine Gl.st (U' := (T0.setTop (mkF m 10 #[.val (.int k)] [(.int (1 : Int32)), (.int k)]))) (fun _ zz => XS.iconst X0.here hx rfl (hb hby d2_9) zz) ?_
    by_cases q1 : k = (1 : Int32)
    · refine Gl.st (U' := (T0.setTop (mkF m 13 #[.val (.int k)] []))) (fun _ zz => XS.icmpNo X0.here hx rfl (hb hby d2_10) rfl (teq q1).2 zz) ?_
      obtain ⟨Tt14, Xt14, et14, stt14⟩ := getS2 X0 hx hZ hown (host := "") (Or.inl (hw _ (List.mem_of_getElem? (i := 87) rfl))) Via.refl e0 S1 (g := (mkF m 13 #[.val (.int k)] [])) rfl (hb hby d2_13)
      refine Gl.st (U' := (Tt14.setTop (mkF m 16 #[.val (.int k)] [(.ref o1)]))) stt14 ?_
      exact Gl.retA Xt14 hx hret rfl hlk rfl (hb hby d2_16) ⟨_, rfl, rfl, et14⟩ (by decide) (by decide)
    · refine Gl.st (U' := (T0.setTop (mkF m 17 #[.val (.int k)] []))) (fun _ zz => XS.icmpYes X0.here hx rfl (pc0 := 10) (pc' := 17) rfl (hb hby d2_10) rfl (feq q1).2 (by decide) (by decide) zz) ?_
      refine Gl.st (U' := (T0.setTop (mkF m 18 #[.val (.int k)] [(.int k)]))) (fun _ zz => XS.iloadN X0.here hx rfl (hb hby d2_17) rfl zz) ?_
      refine Gl.st (U' := (T0.setTop (mkF m 19 #[.val (.int k)] [(.int (2 : Int32)), (.int k)]))) (fun _ zz => XS.iconst X0.here hx rfl (hb hby d2_18) zz) ?_
      by_cases q2 : k = (2 : Int32)
      · refine Gl.st (U' := (T0.setTop (mkF m 22 #[.val (.int k)] []))) (fun _ zz => XS.icmpNo X0.here hx rfl (hb hby d2_19) rfl (teq q2).2 zz) ?_
        obtain ⟨Tt15, Xt15, et15, stt15⟩ := getS2 X0 hx hZ hown (host := "") (Or.inl (hw _ (List.mem_of_getElem? (i := 11) rfl))) Via.refl e0 S2 (g := (mkF m 22 #[.val (.int k)] [])) rfl (hb hby d2_22)
        refine Gl.st (U' := (Tt15.setTop (mkF m 25 #[.val (.int k)] [(.ref o2)]))) stt15 ?_
        exact Gl.retA Xt15 hx hret rfl hlk rfl (hb hby d2_25) ⟨_, rfl, rfl, et15⟩ (by decide) (by decide)
      · refine Gl.st (U' := (T0.setTop (mkF m 26 #[.val (.int k)] []))) (fun _ zz => XS.icmpYes X0.here hx rfl (pc0 := 19) (pc' := 26) rfl (hb hby d2_19) rfl (feq q2).2 (by decide) (by decide) zz) ?_
        refine Gl.st (U' := (T0.setTop (mkF m 27 #[.val (.int k)] [(.int k)]))) (fun _ zz => XS.iloadN X0.here hx rfl (hb hby d2_26) rfl zz) ?_
        refine Gl.st (U' := (T0.setTop (mkF m 28 #[.val (.int k)] [(.int (3 : Int32)), (.int k)]))) (fun _ zz => XS.iconst X0.here hx rfl (hb hby d2_27) zz) ?_
        by_cases q3 : k = (3 : Int32)
        · refine Gl.st (U' := (T0.setTop (mkF m 31 #[.val (.int k)] []))) (fun _ zz => XS.icmpNo X0.here hx rfl (hb hby d2_28) rfl (teq q3).2 zz) ?_
          obtain ⟨Tt16, Xt16, et16, stt16⟩ := getS2 X0 hx hZ hown (host := "") (Or.inl (hw _ (List.mem_of_getElem? (i := 103) rfl))) Via.refl e0 S3 (g := (mkF m 31 #[.val (.int k)] [])) rfl (hb hby d2_31)
          refine Gl.st (U' := (Tt16.setTop (mkF m 34 #[.val (.int k)] [(.ref o3)]))) stt16 ?_
          exact Gl.retA Xt16 hx hret rfl hlk rfl (hb hby d2_34) ⟨_, rfl, rfl, et16⟩ (by decide) (by decide)
        · refine Gl.st (U' := (T0.setTop (mkF m 35 #[.val (.int k)] []))) (fun _ zz => XS.icmpYes X0.here hx rfl (pc0 := 28) (pc' := 35) rfl (hb hby d2_28) rfl (feq q3).2 (by decide) (by decide) zz) ?_
          obtain ⟨Tt17, Xt17, et17, stt17⟩ := getS2 X0 hx hZ hown (host := "") (Or.inl (hw _ (List.mem_of_getElem? (i := 93) rfl))) Via.refl e0 S4 (g := (mkF m 35 #[.val (.int k)] [])) rfl (hb hby d2_35)
          refine Gl.st (U' := (Tt17.setTop (mkF m 38 #[.val (.int k)] [(.ref o4)]))) stt17 ?_
          exact Gl.retA Xt17 hx hret rfl hlk rfl (hb hby d2_38) ⟨_, rfl, rfl, et17⟩ (by decide) (by decide)
theorem d9_0 : decode prog_38_method_1_code 0 = .ok (.aload_n 0, 1) := by decide +kernel
theorem d9_1 : decode prog_38_method_1_code 1 = .ok (.invokespecial 1, 3) := by decide +kernel
theorem d9_4 : decode prog_38_method_1_code 4 = .ok (.aload_n 0, 1) := by decide +kernel
theorem d9_5 : decode prog_38_method_1_code 5 = .ok (.aload 10, 2) := by decide +kernel
theorem d9_7 : decode prog_38_method_1_code 7 = .ok (.putfield 7, 3) := by decide +kernel
theorem d9_10 : decode prog_38_method_1_code 10 = .ok (.aload_n 0, 1) := by decide +kernel
theorem d9_11 : decode prog_38_method_1_code 11 = .ok (.aload_n 1, 1) := by decide +kernel
theorem d9_12 : decode prog_38_method_1_code 12 = .ok (.putfield 13, 3) := by decide +kernel
theorem d9_15 : decode prog_38_method_1_code 15 = .ok (.aload_n 0, 1) := by decide +kernel
theorem d9_16 : decode prog_38_method_1_code 16 = .ok (.aload_n 2, 1) := by decide +kernel
theorem d9_17 : decode prog_38_method_1_code 17 = .ok (.putfield 17, 3) := by decide +kernel
theorem d9_20 : decode prog_38_method_1_code 20 = .ok (.aload_n 0, 1) := by decide +kernel
theorem d9_21 : decode prog_38_method_1_code 21 = .ok (.iload_n 3, 1) := by decide +kernel
theorem d9_22 : decode prog_38_method_1_code 22 = .ok (.putfield 21, 3) := by decide +kernel
theorem d9_25 : decode prog_38_method_1_code 25 = .ok (.aload_n 0, 1) := by decide +kernel
theorem d9_26 : decode prog_38_method_1_code 26 = .ok (.aload 4, 2) := by decide +kernel
theorem d9_28 : decode prog_38_method_1_code 28 = .ok (.putfield 25, 3) := by decide +kernel
theorem d9_31 : decode prog_38_method_1_code 31 = .ok (.aload_n 0, 1) := by decide +kernel
theorem d9_32 : decode prog_38_method_1_code 32 = .ok (.iload 5, 2) := by decide +kernel
theorem d9_34 : decode prog_38_method_1_code 34 = .ok (.putfield 29, 3) := by decide +kernel
theorem d9_37 : decode prog_38_method_1_code 37 = .ok (.aload_n 0, 1) := by decide +kernel
theorem d9_38 : decode prog_38_method_1_code 38 = .ok (.iload 6, 2) := by decide +kernel
theorem d9_40 : decode prog_38_method_1_code 40 = .ok (.putfield 33, 3) := by decide +kernel
theorem d9_43 : decode prog_38_method_1_code 43 = .ok (.aload_n 0, 1) := by decide +kernel
theorem d9_44 : decode prog_38_method_1_code 44 = .ok (.iload 7, 2) := by decide +kernel
theorem d9_46 : decode prog_38_method_1_code 46 = .ok (.putfield 36, 3) := by decide +kernel
theorem d9_49 : decode prog_38_method_1_code 49 = .ok (.aload_n 0, 1) := by decide +kernel
theorem d9_50 : decode prog_38_method_1_code 50 = .ok (.iload 8, 2) := by decide +kernel
theorem d9_52 : decode prog_38_method_1_code 52 = .ok (.putfield 39, 3) := by decide +kernel
theorem d9_55 : decode prog_38_method_1_code 55 = .ok (.aload_n 0, 1) := by decide +kernel
theorem d9_56 : decode prog_38_method_1_code 56 = .ok (.iload 9, 2) := by decide +kernel
theorem d9_58 : decode prog_38_method_1_code 58 = .ok (.putfield 42, 3) := by decide +kernel
theorem d9_61 : decode prog_38_method_1_code 61 = .ok (.return_, 1) := by decide +kernel
set_option maxRecDepth 65536 in
set_option maxHeartbeats 40000000 in
theorem own_init_con (l : Launch) (Z : State) (a0 : Array Value) (hw : ∀ d ∈ tables_1, d.before a0 Z = true) (h0 : Heap) (n0 : Nat) (a nn : Addr) (ga : n0 ≤ a) (E0 : Exa Z h0 a "com/example/rungsight/rungsight/flow/Variable") (K0 : own_K h0 a) (vt : Value) (hvt : vt.isRef = true) (ix : Int32) (oo : Addr) (b1 b2 b3 b4 b5 : Int32) (g1 : b1 = 0 ∨ b1 = 1) (g2 : b2 = 0 ∨ b2 = 1) (g3 : b3 = 0 ∨ b3 = 1) (g4 : b4 = 0 ∨ b4 = 1) (g5 : b5 = 0 ∨ b5 = 1) :
    Con [] l Z site_134 prog_38_method_1_code 11 none ({ frames := 1, cells := 0, slots := 0, locals := 12 } : Room) #[(.ref a), (.ref nn), vt, (.int ix), (.ref oo), (.int b1), (.int b2), (.int b3), (.int b4), (.int b5), .null] h0 (fun v h L => v = none ∧ Fr n0 L ∧ Exa Z h a "com/example/rungsight/rungsight/flow/Variable" ∧ Fld Z h a "com/example/rungsight/rungsight/flow/Variable" "type" "Lcom/example/rungsight/rungsight/types/IntegerType;" vt) := by
  refine Con.of (Ls := #[.val (.ref a), .val (.ref nn), .val vt, .val (.int ix), .val (.ref oo), .val (.int b1), .val (.int b2), .val (.int b3), .val (.int b4), .val (.int b5), .val .null]) (by first | exact plainFor_of_name (by first | (simp [plainName, overriddenIn]; done) | decide +kernel) | decide +kernel) (fun m => by rcases ref_cases hvt with rfl | ⟨_, rfl⟩ <;> first | (simp [entryFrame, mkF, argsToLocals, Value.category]; done) | rfl) ?_
  intro p e s m below meth c T0 hx hby hml hown hnm hret hlk hZ e0 X0
  have N0 := Fr.nil n0
  refine Gl.st (U' := (T0.setTop (mkF m 1 #[.val (.ref a), .val (.ref nn), .val vt, .val (.int ix), .val (.ref oo), .val (.int b1), .val (.int b2), .val (.int b3), .val (.int b4), .val (.int b5), .val .null] [(.ref a)]))) (fun _ zz => XS.aloadN X0.here hx rfl (hb hby d9_0) rfl rfl zz) ?_
  obtain ⟨Tt18, Xt18, et18, stt18⟩ := initO X0 hx hZ hown (hw _ (List.mem_of_getElem? (i := 50) rfl)) (hw _ (List.mem_of_getElem? (i := 26) rfl)) (hw _ (List.mem_of_getElem? (i := 27) rfl)) e0 (g := (mkF m 1 #[.val (.ref a), .val (.ref nn), .val vt, .val (.int ix), .val (.ref oo), .val (.int b1), .val (.int b2), .val (.int b3), .val (.int b4), .val (.int b5), .val .null] [(.ref a)])) rfl (by rw [hml]; rfl) rfl (hb hby d9_1) (by decide) (W := 0) (by show 2 * 0 + _ ≤ _; exact Nat.le_of_eq rfl) (by decide)
  refine Gl.st (U' := (Tt18.setTop (mkF m 4 #[.val (.ref a), .val (.ref nn), .val vt, .val (.int ix), .val (.ref oo), .val (.int b1), .val (.int b2), .val (.int b3), .val (.int b4), .val (.int b5), .val .null] []))) stt18 ?_
  refine Gl.st (U' := (Tt18.setTop (mkF m 5 #[.val (.ref a), .val (.ref nn), .val vt, .val (.int ix), .val (.ref oo), .val (.int b1), .val (.int b2), .val (.int b3), .val (.int b4), .val (.int b5), .val .null] [(.ref a)]))) (fun _ zz => XS.aloadN Xt18.here hx rfl (hb hby d9_4) rfl rfl zz) ?_
  refine Gl.st (U' := (Tt18.setTop (mkF m 7 #[.val (.ref a), .val (.ref nn), .val vt, .val (.int ix), .val (.ref oo), .val (.int b1), .val (.int b2), .val (.int b3), .val (.int b4), .val (.int b5), .val .null] [.null, (.ref a)]))) (fun _ zz => XS.aload Xt18.here hx rfl (hb hby d9_5) rfl rfl zz) ?_
  obtain ⟨ot19, Ft19⟩ := fld_laid E0 K0 (hw _ (List.mem_of_getElem? (i := 45) rfl)) (Or.inr (hw _ (List.mem_of_getElem? (i := 52) rfl)))
  obtain ⟨Tt20, ht20, Xt20, et20, Wt20, stt20⟩ := putF Xt18 hx hZ hown (host := "") (Or.inl (hw _ (List.mem_of_getElem? (i := 51) rfl))) Via.refl et18 Ft19 E0 (Or.inr ⟨(hw _ (List.mem_of_getElem? (i := 52) rfl)), rfl, hnm⟩) (hw _ (List.mem_of_getElem? (i := 45) rfl)) (own_ty_eq (by decide +kernel)) own_nn (by decide +kernel) (g := (mkF m 7 #[.val (.ref a), .val (.ref nn), .val vt, .val (.int ix), .val (.ref oo), .val (.int b1), .val (.int b2), .val (.int b3), .val (.int b4), .val (.int b5), .val .null] [.null, (.ref a)])) rfl rfl (hb hby d9_7)
  refine Gl.st (U' := (Tt20.setTop (mkF m 10 #[.val (.ref a), .val (.ref nn), .val vt, .val (.int ix), .val (.ref oo), .val (.int b1), .val (.int b2), .val (.int b3), .val (.int b4), .val (.int b5), .val .null] []))) stt20 ?_
  have Et21 := Exa.wr Wt20 E0
  have Kt21 := own_K_wr Wt20 K0
  have Nt23 := Fr.snoc Xt20 N0 ga
  refine Gl.st (U' := (Tt20.setTop (mkF m 11 #[.val (.ref a), .val (.ref nn), .val vt, .val (.int ix), .val (.ref oo), .val (.int b1), .val (.int b2), .val (.int b3), .val (.int b4), .val (.int b5), .val .null] [(.ref a)]))) (fun _ zz => XS.aloadN Xt20.here hx rfl (hb hby d9_10) rfl rfl zz) ?_
  refine Gl.st (U' := (Tt20.setTop (mkF m 12 #[.val (.ref a), .val (.ref nn), .val vt, .val (.int ix), .val (.ref oo), .val (.int b1), .val (.int b2), .val (.int b3), .val (.int b4), .val (.int b5), .val .null] [(.ref nn), (.ref a)]))) (fun _ zz => XS.aloadN Xt20.here hx rfl (hb hby d9_11) rfl rfl zz) ?_
  obtain ⟨ot24, Ft24⟩ := fld_laid Et21 Kt21 (hw _ (List.mem_of_getElem? (i := 45) rfl)) (Or.inr (hw _ (List.mem_of_getElem? (i := 54) rfl)))
  obtain ⟨Tt25, ht25, Xt25, et25, Wt25, stt25⟩ := putF Xt20 hx hZ hown (host := "") (Or.inl (hw _ (List.mem_of_getElem? (i := 53) rfl))) Via.refl et20 Ft24 Et21 (Or.inr ⟨(hw _ (List.mem_of_getElem? (i := 54) rfl)), rfl, hnm⟩) (hw _ (List.mem_of_getElem? (i := 45) rfl)) (ty := (.object "java/lang/String")) (by decide +kernel) rfl rfl (g := (mkF m 12 #[.val (.ref a), .val (.ref nn), .val vt, .val (.int ix), .val (.ref oo), .val (.int b1), .val (.int b2), .val (.int b3), .val (.int b4), .val (.int b5), .val .null] [(.ref nn), (.ref a)])) rfl rfl (hb hby d9_12)
  refine Gl.st (U' := (Tt25.setTop (mkF m 15 #[.val (.ref a), .val (.ref nn), .val vt, .val (.int ix), .val (.ref oo), .val (.int b1), .val (.int b2), .val (.int b3), .val (.int b4), .val (.int b5), .val .null] []))) stt25 ?_
  have Et26 := Exa.wr Wt25 Et21
  have Kt26 := own_K_wr Wt25 Kt21
  have Nt28 := Fr.snoc Xt25 Nt23 ga
  refine Gl.st (U' := (Tt25.setTop (mkF m 16 #[.val (.ref a), .val (.ref nn), .val vt, .val (.int ix), .val (.ref oo), .val (.int b1), .val (.int b2), .val (.int b3), .val (.int b4), .val (.int b5), .val .null] [(.ref a)]))) (fun _ zz => XS.aloadN Xt25.here hx rfl (hb hby d9_15) rfl rfl zz) ?_
  refine Gl.st (U' := (Tt25.setTop (mkF m 17 #[.val (.ref a), .val (.ref nn), .val vt, .val (.int ix), .val (.ref oo), .val (.int b1), .val (.int b2), .val (.int b3), .val (.int b4), .val (.int b5), .val .null] [vt, (.ref a)]))) (fun _ zz => XS.aloadN Xt25.here hx rfl (hb hby d9_16) rfl hvt zz) ?_
  obtain ⟨ot29, Ft29⟩ := fld_laid Et26 Kt26 (hw _ (List.mem_of_getElem? (i := 45) rfl)) (Or.inr (hw _ (List.mem_of_getElem? (i := 56) rfl)))
  obtain ⟨Tt30, ht30, Xt30, et30, Wt30, stt30⟩ := putF Xt25 hx hZ hown (host := "") (Or.inl (hw _ (List.mem_of_getElem? (i := 55) rfl))) Via.refl et25 Ft29 Et26 (Or.inr ⟨(hw _ (List.mem_of_getElem? (i := 56) rfl)), rfl, hnm⟩) (hw _ (List.mem_of_getElem? (i := 45) rfl)) (ty := (.object "com/example/rungsight/rungsight/types/IntegerType")) (by decide +kernel) own_nr (own_fr hvt) (g := (mkF m 17 #[.val (.ref a), .val (.ref nn), .val vt, .val (.int ix), .val (.ref oo), .val (.int b1), .val (.int b2), .val (.int b3), .val (.int b4), .val (.int b5), .val .null] [vt, (.ref a)])) rfl rfl (hb hby d9_17)
  refine Gl.st (U' := (Tt30.setTop (mkF m 20 #[.val (.ref a), .val (.ref nn), .val vt, .val (.int ix), .val (.ref oo), .val (.int b1), .val (.int b2), .val (.int b3), .val (.int b4), .val (.int b5), .val .null] []))) stt30 ?_
  have Et31 := Exa.wr Wt30 Et26
  have Kt31 := own_K_wr Wt30 Kt26
  have Ft32 := Fld.same Wt30 Ft29
  have Nt33 := Fr.snoc Xt30 Nt28 ga
  refine Gl.st (U' := (Tt30.setTop (mkF m 21 #[.val (.ref a), .val (.ref nn), .val vt, .val (.int ix), .val (.ref oo), .val (.int b1), .val (.int b2), .val (.int b3), .val (.int b4), .val (.int b5), .val .null] [(.ref a)]))) (fun _ zz => XS.aloadN Xt30.here hx rfl (hb hby d9_20) rfl rfl zz) ?_
  refine Gl.st (U' := (Tt30.setTop (mkF m 22 #[.val (.ref a), .val (.ref nn), .val vt, .val (.int ix), .val (.ref oo), .val (.int b1), .val (.int b2), .val (.int b3), .val (.int b4), .val (.int b5), .val .null] [(.int ix), (.ref a)]))) (fun _ zz => XS.iloadN Xt30.here hx rfl (hb hby d9_21) rfl zz) ?_
  obtain ⟨ot34, Ft34⟩ := fld_laid Et31 Kt31 (hw _ (List.mem_of_getElem? (i := 45) rfl)) (Or.inr (hw _ (List.mem_of_getElem? (i := 58) rfl)))
  obtain ⟨Tt35, ht35, Xt35, et35, Wt35, stt35⟩ := putF Xt30 hx hZ hown (host := "") (Or.inl (hw _ (List.mem_of_getElem? (i := 57) rfl))) Via.refl et30 Ft34 Et31 (Or.inr ⟨(hw _ (List.mem_of_getElem? (i := 58) rfl)), rfl, hnm⟩) (hw _ (List.mem_of_getElem? (i := 45) rfl)) (ty := .int) (by decide +kernel) rfl rfl (g := (mkF m 22 #[.val (.ref a), .val (.ref nn), .val vt, .val (.int ix), .val (.ref oo), .val (.int b1), .val (.int b2), .val (.int b3), .val (.int b4), .val (.int b5), .val .null] [(.int ix), (.ref a)])) rfl rfl (hb hby d9_22)
  refine Gl.st (U' := (Tt35.setTop (mkF m 25 #[.val (.ref a), .val (.ref nn), .val vt, .val (.int ix), .val (.ref oo), .val (.int b1), .val (.int b2), .val (.int b3), .val (.int b4), .val (.int b5), .val .null] []))) stt35 ?_
  have Et36 := Exa.wr Wt35 Et31
  have Kt36 := own_K_wr Wt35 Kt31
  have Ft37 := Fld.other Wt35 Ft32 (Or.inr (slot_ne (Or.inr (hw _ (List.mem_of_getElem? (i := 56) rfl))) (Or.inr (hw _ (List.mem_of_getElem? (i := 58) rfl))) (by decide) (own_ty_eq (by decide +kernel)) (own_ty_eq (by decide +kernel))))
  have Nt39 := Fr.snoc Xt35 Nt33 ga
  refine Gl.st (U' := (Tt35.setTop (mkF m 26 #[.val (.ref a), .val (.ref nn), .val vt, .val (.int ix), .val (.ref oo), .val (.int b1), .val (.int b2), .val (.int b3), .val (.int b4), .val (.int b5), .val .null] [(.ref a)]))) (fun _ zz => XS.aloadN Xt35.here hx rfl (hb hby d9_25) rfl rfl zz) ?_
  refine Gl.st (U' := (Tt35.setTop (mkF m 28 #[.val (.ref a), .val (.ref nn), .val vt, .val (.int ix), .val (.ref oo), .val (.int b1), .val (.int b2), .val (.int b3), .val (.int b4), .val (.int b5), .val .null] [(.ref oo), (.ref a)]))) (fun _ zz => XS.aload Xt35.here hx rfl (hb hby d9_26) rfl rfl zz) ?_
  obtain ⟨ot40, Ft40⟩ := fld_laid Et36 Kt36 (hw _ (List.mem_of_getElem? (i := 45) rfl)) (Or.inr (hw _ (List.mem_of_getElem? (i := 60) rfl)))
  obtain ⟨Tt41, ht41, Xt41, et41, Wt41, stt41⟩ := putF Xt35 hx hZ hown (host := "") (Or.inl (hw _ (List.mem_of_getElem? (i := 59) rfl))) Via.refl et35 Ft40 Et36 (Or.inr ⟨(hw _ (List.mem_of_getElem? (i := 60) rfl)), rfl, hnm⟩) (hw _ (List.mem_of_getElem? (i := 45) rfl)) (ty := (.object "com/example/rungsight/rungsight/flow/Variable$Origin")) (by decide +kernel) rfl rfl (g := (mkF m 28 #[.val (.ref a), .val (.ref nn), .val vt, .val (.int ix), .val (.ref oo), .val (.int b1), .val (.int b2), .val (.int b3), .val (.int b4), .val (.int b5), .val .null] [(.ref oo), (.ref a)])) rfl rfl (hb hby d9_28)
  refine Gl.st (U' := (Tt41.setTop (mkF m 31 #[.val (.ref a), .val (.ref nn), .val vt, .val (.int ix), .val (.ref oo), .val (.int b1), .val (.int b2), .val (.int b3), .val (.int b4), .val (.int b5), .val .null] []))) stt41 ?_
  have Et42 := Exa.wr Wt41 Et36
  have Kt42 := own_K_wr Wt41 Kt36
  have Ft43 := Fld.other Wt41 Ft37 (Or.inr (slot_ne (Or.inr (hw _ (List.mem_of_getElem? (i := 56) rfl))) (Or.inr (hw _ (List.mem_of_getElem? (i := 60) rfl))) (by decide) (own_ty_eq (by decide +kernel)) (own_ty_eq (by decide +kernel))))
  have Nt45 := Fr.snoc Xt41 Nt39 ga
  refine Gl.st (U' := (Tt41.setTop (mkF m 32 #[.val (.ref a), .val (.ref nn), .val vt, .val (.int ix), .val (.ref oo), .val (.int b1), .val (.int b2), .val (.int b3), .val (.int b4), .val (.int b5), .val .null] [(.ref a)]))) (fun _ zz => XS.aloadN Xt41.here hx rfl (hb hby d9_31) rfl rfl zz) ?_
  refine Gl.st (U' := (Tt41.setTop (mkF m 34 #[.val (.ref a), .val (.ref nn), .val vt, .val (.int ix), .val (.ref oo), .val (.int b1), .val (.int b2), .val (.int b3), .val (.int b4), .val (.int b5), .val .null] [(.int b1), (.ref a)]))) (fun _ zz => XS.iload Xt41.here hx rfl (hb hby d9_32) rfl zz) ?_
  obtain ⟨ot46, Ft46⟩ := fld_laid Et42 Kt42 (hw _ (List.mem_of_getElem? (i := 45) rfl)) (Or.inl (hw _ (List.mem_of_getElem? (i := 62) rfl)))
  obtain ⟨Tt47, ht47, Xt47, et47, Wt47, stt47⟩ := putF Xt41 hx hZ hown (host := "") (Or.inl (hw _ (List.mem_of_getElem? (i := 61) rfl))) Via.refl et41 Ft46 Et42 (Or.inl (hw _ (List.mem_of_getElem? (i := 62) rfl))) (hw _ (List.mem_of_getElem? (i := 45) rfl)) (ty := .boolean) (by decide +kernel) (own_nz g1) (own_fz g1) (g := (mkF m 34 #[.val (.ref a), .val (.ref nn), .val vt, .val (.int ix), .val (.ref oo), .val (.int b1), .val (.int b2), .val (.int b3), .val (.int b4), .val (.int b5), .val .null] [(.int b1), (.ref a)])) rfl rfl (hb hby d9_34)
  refine Gl.st (U' := (Tt47.setTop (mkF m 37 #[.val (.ref a), .val (.ref nn), .val vt, .val (.int ix), .val (.ref oo), .val (.int b1), .val (.int b2), .val (.int b3), .val (.int b4), .val (.int b5), .val .null] []))) stt47 ?_
  have Et48 := Exa.wr Wt47 Et42
  have Kt48 := own_K_wr Wt47 Kt42
  have Ft49 := Fld.other Wt47 Ft43 (Or.inr (slot_ne (Or.inr (hw _ (List.mem_of_getElem? (i := 56) rfl))) (Or.inl (hw _ (List.mem_of_getElem? (i := 62) rfl))) (by decide) (own_ty_eq (by decide +kernel)) (own_ty_eq (by decide +kernel))))
  have Nt51 := Fr.snoc Xt47 Nt45 ga
  refine Gl.st (U' := (Tt47.setTop (mkF m 38 #[.val (.ref a), .val (.ref nn), .val vt, .val (.int ix), .val (.ref oo), .val (.int b1), .val (.int b2), .val (.int b3), .val (.int b4), .val (.int b5), .val .null] [(.ref a)]))) (fun _ zz => XS.aloadN Xt47.here hx rfl (hb hby d9_37) rfl rfl zz) ?_
  refine Gl.st (U' := (Tt47.setTop (mkF m 40 #[.val (.ref a), .val (.ref nn), .val vt, .val (.int ix), .val (.ref oo), .val (.int b1), .val (.int b2), .val (.int b3), .val (.int b4), .val (.int b5), .val .null] [(.int b2), (.ref a)]))) (fun _ zz => XS.iload Xt47.here hx rfl (hb hby d9_38) rfl zz) ?_
  obtain ⟨ot52, Ft52⟩ := fld_laid Et48 Kt48 (hw _ (List.mem_of_getElem? (i := 45) rfl)) (Or.inr (hw _ (List.mem_of_getElem? (i := 64) rfl)))
  obtain ⟨Tt53, ht53, Xt53, et53, Wt53, stt53⟩ := putF Xt47 hx hZ hown (host := "") (Or.inl (hw _ (List.mem_of_getElem? (i := 63) rfl))) Via.refl et47 Ft52 Et48 (Or.inr ⟨(hw _ (List.mem_of_getElem? (i := 64) rfl)), rfl, hnm⟩) (hw _ (List.mem_of_getElem? (i := 45) rfl)) (ty := .boolean) (by decide +kernel) (own_nz g2) (own_fz g2) (g := (mkF m 40 #[.val (.ref a), .val (.ref nn), .val vt, .val (.int ix), .val (.ref oo), .val (.int b1), .val (.int b2), .val (.int b3), .val (.int b4), .val (.int b5), .val .null] [(.int b2), (.ref a)])) rfl rfl (hb hby d9_40)
  refine Gl.st (U' := (Tt53.setTop (mkF m 43 #[.val (.ref a), .val (.ref nn), .val vt, .val (.int ix), .val (.ref oo), .val (.int b1), .val (.int b2), .val (.int b3), .val (.int b4), .val (.int b5), .val .null] []))) stt53 ?_
  have Et54 := Exa.wr Wt53 Et48
  have Kt54 := own_K_wr Wt53 Kt48
  have Ft55 := Fld.other Wt53 Ft49 (Or.inr (slot_ne (Or.inr (hw _ (List.mem_of_getElem? (i := 56) rfl))) (Or.inr (hw _ (List.mem_of_getElem? (i := 64) rfl))) (by decide) (own_ty_eq (by decide +kernel)) (own_ty_eq (by decide +kernel))))
  have Nt57 := Fr.snoc Xt53 Nt51 ga
  refine Gl.st (U' := (Tt53.setTop (mkF m 44 #[.val (.ref a), .val (.ref nn), .val vt, .val (.int ix), .val (.ref oo), .val (.int b1), .val (.int b2), .val (.int b3), .val (.int b4), .val (.int b5), .val .null] [(.ref a)]))) (fun _ zz => XS.aloadN Xt53.here hx rfl (hb hby d9_43) rfl rfl zz) ?_
  refine Gl.st (U' := (Tt53.setTop (mkF m 46 #[.val (.ref a), .val (.ref nn), .val vt, .val (.int ix), .val (.ref oo), .val (.int b1), .val (.int b2), .val (.int b3), .val (.int b4), .val (.int b5), .val .null] [(.int b3), (.ref a)]))) (fun _ zz => XS.iload Xt53.here hx rfl (hb hby d9_44) rfl zz) ?_
  obtain ⟨ot58, Ft58⟩ := fld_laid Et54 Kt54 (hw _ (List.mem_of_getElem? (i := 45) rfl)) (Or.inr (hw _ (List.mem_of_getElem? (i := 66) rfl)))
  obtain ⟨Tt59, ht59, Xt59, et59, Wt59, stt59⟩ := putF Xt53 hx hZ hown (host := "") (Or.inl (hw _ (List.mem_of_getElem? (i := 65) rfl))) Via.refl et53 Ft58 Et54 (Or.inr ⟨(hw _ (List.mem_of_getElem? (i := 66) rfl)), rfl, hnm⟩) (hw _ (List.mem_of_getElem? (i := 45) rfl)) (ty := .boolean) (by decide +kernel) (own_nz g3) (own_fz g3) (g := (mkF m 46 #[.val (.ref a), .val (.ref nn), .val vt, .val (.int ix), .val (.ref oo), .val (.int b1), .val (.int b2), .val (.int b3), .val (.int b4), .val (.int b5), .val .null] [(.int b3), (.ref a)])) rfl rfl (hb hby d9_46)
  refine Gl.st (U' := (Tt59.setTop (mkF m 49 #[.val (.ref a), .val (.ref nn), .val vt, .val (.int ix), .val (.ref oo), .val (.int b1), .val (.int b2), .val (.int b3), .val (.int b4), .val (.int b5), .val .null] []))) stt59 ?_
  have Et60 := Exa.wr Wt59 Et54
  have Kt60 := own_K_wr Wt59 Kt54
  have Ft61 := Fld.other Wt59 Ft55 (Or.inr (slot_ne (Or.inr (hw _ (List.mem_of_getElem? (i := 56) rfl))) (Or.inr (hw _ (List.mem_of_getElem? (i := 66) rfl))) (by decide) (own_ty_eq (by decide +kernel)) (own_ty_eq (by decide +kernel))))
  have Nt63 := Fr.snoc Xt59 Nt57 ga
  refine Gl.st (U' := (Tt59.setTop (mkF m 50 #[.val (.ref a), .val (.ref nn), .val vt, .val (.int ix), .val (.ref oo), .val (.int b1), .val (.int b2), .val (.int b3), .val (.int b4), .val (.int b5), .val .null] [(.ref a)]))) (fun _ zz => XS.aloadN Xt59.here hx rfl (hb hby d9_49) rfl rfl zz) ?_
  refine Gl.st (U' := (Tt59.setTop (mkF m 52 #[.val (.ref a), .val (.ref nn), .val vt, .val (.int ix), .val (.ref oo), .val (.int b1), .val (.int b2), .val (.int b3), .val (.int b4), .val (.int b5), .val .null] [(.int b4), (.ref a)]))) (fun _ zz => XS.iload Xt59.here hx rfl (hb hby d9_50) rfl zz) ?_
  obtain ⟨ot64, Ft64⟩ := fld_laid Et60 Kt60 (hw _ (List.mem_of_getElem? (i := 45) rfl)) (Or.inr (hw _ (List.mem_of_getElem? (i := 68) rfl)))
  obtain ⟨Tt65, ht65, Xt65, et65, Wt65, stt65⟩ := putF Xt59 hx hZ hown (host := "") (Or.inl (hw _ (List.mem_of_getElem? (i := 67) rfl))) Via.refl et59 Ft64 Et60 (Or.inr ⟨(hw _ (List.mem_of_getElem? (i := 68) rfl)), rfl, hnm⟩) (hw _ (List.mem_of_getElem? (i := 45) rfl)) (ty := .boolean) (by decide +kernel) (own_nz g4) (own_fz g4) (g := (mkF m 52 #[.val (.ref a), .val (.ref nn), .val vt, .val (.int ix), .val (.ref oo), .val (.int b1), .val (.int b2), .val (.int b3), .val (.int b4), .val (.int b5), .val .null] [(.int b4), (.ref a)])) rfl rfl (hb hby d9_52)
  refine Gl.st (U' := (Tt65.setTop (mkF m 55 #[.val (.ref a), .val (.ref nn), .val vt, .val (.int ix), .val (.ref oo), .val (.int b1), .val (.int b2), .val (.int b3), .val (.int b4), .val (.int b5), .val .null] []))) stt65 ?_
  have Et66 := Exa.wr Wt65 Et60
  have Kt66 := own_K_wr Wt65 Kt60
  have Ft67 := Fld.other Wt65 Ft61 (Or.inr (slot_ne (Or.inr (hw _ (List.mem_of_getElem? (i := 56) rfl))) (Or.inr (hw _ (List.mem_of_getElem? (i := 68) rfl))) (by decide) (own_ty_eq (by decide +kernel)) (own_ty_eq (by decide +kernel))))
  have Nt69 := Fr.snoc Xt65 Nt63 ga
  refine Gl.st (U' := (Tt65.setTop (mkF m 56 #[.val (.ref a), .val (.ref nn), .val vt, .val (.int ix), .val (.ref oo), .val (.int b1), .val (.int b2), .val (.int b3), .val (.int b4), .val (.int b5), .val .null] [(.ref a)]))) (fun _ zz => XS.aloadN Xt65.here hx rfl (hb hby d9_55) rfl rfl zz) ?_
  refine Gl.st (U' := (Tt65.setTop (mkF m 58 #[.val (.ref a), .val (.ref nn), .val vt, .val (.int ix), .val (.ref oo), .val (.int b1), .val (.int b2), .val (.int b3), .val (.int b4), .val (.int b5), .val .null] [(.int b5), (.ref a)]))) (fun _ zz => XS.iload Xt65.here hx rfl (hb hby d9_56) rfl zz) ?_
  obtain ⟨ot70, Ft70⟩ := fld_laid Et66 Kt66 (hw _ (List.mem_of_getElem? (i := 45) rfl)) (Or.inr (hw _ (List.mem_of_getElem? (i := 70) rfl)))
  obtain ⟨Tt71, ht71, Xt71, et71, Wt71, stt71⟩ := putF Xt65 hx hZ hown (host := "") (Or.inl (hw _ (List.mem_of_getElem? (i := 69) rfl))) Via.refl et65 Ft70 Et66 (Or.inr ⟨(hw _ (List.mem_of_getElem? (i := 70) rfl)), rfl, hnm⟩) (hw _ (List.mem_of_getElem? (i := 45) rfl)) (ty := .boolean) (by decide +kernel) (own_nz g5) (own_fz g5) (g := (mkF m 58 #[.val (.ref a), .val (.ref nn), .val vt, .val (.int ix), .val (.ref oo), .val (.int b1), .val (.int b2), .val (.int b3), .val (.int b4), .val (.int b5), .val .null] [(.int b5), (.ref a)])) rfl rfl (hb hby d9_58)
  refine Gl.st (U' := (Tt71.setTop (mkF m 61 #[.val (.ref a), .val (.ref nn), .val vt, .val (.int ix), .val (.ref oo), .val (.int b1), .val (.int b2), .val (.int b3), .val (.int b4), .val (.int b5), .val .null] []))) stt71 ?_
  have Et72 := Exa.wr Wt71 Et66
  have Kt72 := own_K_wr Wt71 Kt66
  have Ft73 := Fld.other Wt71 Ft67 (Or.inr (slot_ne (Or.inr (hw _ (List.mem_of_getElem? (i := 56) rfl))) (Or.inr (hw _ (List.mem_of_getElem? (i := 70) rfl))) (by decide) (own_ty_eq (by decide +kernel)) (own_ty_eq (by decide +kernel))))
  have Nt75 := Fr.snoc Xt71 Nt69 ga
  exact Gl.retV Xt71 hx hret hlk (hb hby d9_61) (by rw [et71]; exact ⟨rfl, Nt75, Et72, Ft73⟩) (by decide) (by decide)
theorem d10_0 : decode prog_38_method_4_code 0 = .ok (.aload_n 0, 1) := by decide +kernel
theorem d10_1 : decode prog_38_method_4_code 1 = .ok (.getfield 17, 3) := by decide +kernel
theorem d10_4 : decode prog_38_method_4_code 4 = .ok (.ifnull 7, 3) := by decide +kernel
theorem d10_7 : decode prog_38_method_4_code 7 = .ok (.iconst 1, 1) := by decide +kernel
theorem d10_8 : decode prog_38_method_4_code 8 = .ok (.goto 4, 3) := by decide +kernel
theorem d10_11 : decode prog_38_method_4_code 11 = .ok (.iconst 0, 1) := by decide +kernel
theorem d10_12 : decode prog_38_method_4_code 12 = .ok (.ireturn, 1) := by decide +kernel
theorem d11_0 : decode prog_38_method_3_code 0 = .ok (.aload_n 0, 1) := by decide +kernel
theorem d11_1 : decode prog_38_method_3_code 1 = .ok (.getfield 17, 3) := by decide +kernel
theorem d11_4 : decode prog_38_method_3_code 4 = .ok (.areturn, 1) := by decide +kernel
set_option maxRecDepth 65536 in
set_option maxHeartbeats 40000000 in
theorem own_isi_con (l : Launch) (Z : State) (a0 : Array Value) (hw : ∀ d ∈ tables_1, d.before a0 Z = true) (h0 : Heap) (a : Addr) (vt : Value) (hvt : vt.isRef = true) (F : Fld Z h0 a "com/example/rungsight/rungsight/flow/Variable" "type" "Lcom/example/rungsight/rungsight/types/IntegerType;" vt) :
    Con [] l Z (⟨"com/example/rungsight/rungsight/flow/Variable", "isInteger", "()Z"⟩ : MethodName) prog_38_method_4_code 1 (Option.some Jvm.ClassFile.FieldType.boolean) ({ frames := 0, cells := 0, slots := 0, locals := 0 } : Room) #[(.ref a)] h0 (fun v h L => v = some (.int (own_bi (¬ vt = .null))) ∧ L = [] ∧ h = h0) := by
  refine Con.of (Ls := #[.val (.ref a)]) (by first | exact plainFor_of_name (by first | (simp [plainName, overriddenIn]; done) | decide +kernel) | decide +kernel) (fun m => by first | (simp [entryFrame, mkF, argsToLocals, Value.category]; done) | (simp [entryFrame, mkF, argsToLocals, Value.category, maxLocals]; done) | rfl) ?_
  intro p e s m below meth c T0 hx hby hml hown hnm hret hlk hZ e0 X0
  refine Gl.st (U' := (T0.setTop (mkF m 1 #[.val (.ref a)] [(.ref a)]))) (fun _ zz => XS.aloadN X0.here hx rfl (hb hby d10_0) rfl rfl zz) ?_
  obtain ⟨Tt76, Xt76, et76, stt76⟩ := getF X0 hx hZ hown (host := "") (Or.inl (hw _ (List.mem_of_getElem? (i := 55) rfl))) Via.refl e0 F (g := (mkF m 1 #[.val (.ref a)] [(.ref a)])) rfl rfl (hb hby d10_1)
  refine Gl.st (U' := (Tt76.setTop (mkF m 4 #[.val (.ref a)] [vt]))) stt76 ?_
  by_cases q : vt = .null
  · refine Gl.st (U' := (Tt76.setTop (mkF m 11 #[.val (.ref a)] []))) (fun _ zz => XT.nullYes Xt76.here hx rfl (pc0 := 4) (pc' := 11) rfl (hb hby d10_4) rfl q (by decide) (by decide) zz) ?_
    refine Gl.st (U' := (Tt76.setTop (mkF m 12 #[.val (.ref a)] [(.int (0 : Int32))]))) (fun _ zz => XS.iconst Xt76.here hx rfl (hb hby d10_11) zz) ?_
    exact Gl.retZ Xt76 hx hret hlk (hb hby d10_12) (Or.inl rfl) ⟨by rw [own_bi_f (fun z => z q)], rfl, et76⟩ (by decide) (by decide)
  · refine Gl.st (U' := (Tt76.setTop (mkF m 7 #[.val (.ref a)] []))) (fun _ zz => XT.nullNo Xt76.here hx rfl (hb hby d10_4) rfl hvt q zz) ?_
    refine Gl.st (U' := (Tt76.setTop (mkF m 8 #[.val (.ref a)] [(.int (1 : Int32))]))) (fun _ zz => XS.iconst Xt76.here hx rfl (hb hby d10_7) zz) ?_
    refine Gl.st (U' := (Tt76.setTop (mkF m 12 #[.val (.ref a)] [(.int (1 : Int32))]))) (fun _ zz => XS.goto Xt76.here hx rfl (pc0 := 8) (pc' := 12) rfl (hb hby d10_8) (by decide) (by decide) zz) ?_
    exact Gl.retZ Xt76 hx hret hlk (hb hby d10_12) (Or.inr rfl) ⟨by rw [own_bi_t q], rfl, et76⟩ (by decide) (by decide)
set_option maxRecDepth 65536 in
set_option maxHeartbeats 40000000 in
theorem own_gty_con (l : Launch) (Z : State) (a0 : Array Value) (hw : ∀ d ∈ tables_1, d.before a0 Z = true) (h0 : Heap) (a : Addr) (vt : Value) (hvt : vt.isRef = true) (F : Fld Z h0 a "com/example/rungsight/rungsight/flow/Variable" "type" "Lcom/example/rungsight/rungsight/types/IntegerType;" vt) :
    Con [] l Z (⟨"com/example/rungsight/rungsight/flow/Variable", "type", "()Lcom/example/rungsight/rungsight/types/IntegerType;"⟩ : MethodName) prog_38_method_3_code 1 (Option.some (Jvm.ClassFile.FieldType.object "com/example/rungsight/rungsight/types/IntegerType")) ({ frames := 0, cells := 0, slots := 0, locals := 0 } : Room) #[(.ref a)] h0 (fun v h L => v = some vt ∧ L = [] ∧ h = h0) := by
  refine Con.of (Ls := #[.val (.ref a)]) (by first | exact plainFor_of_name (by first | (simp [plainName, overriddenIn]; done) | decide +kernel) | decide +kernel) (fun m => by first | (simp [entryFrame, mkF, argsToLocals, Value.category]; done) | (simp [entryFrame, mkF, argsToLocals, Value.category, maxLocals]; done) | rfl) ?_
  intro p e s m below meth c T0 hx hby hml hown hnm hret hlk hZ e0 X0
  refine Gl.st (U' := (T0.setTop (mkF m 1 #[.val (.ref a)] [(.ref a)]))) (fun _ zz => XS.aloadN X0.here hx rfl (hb hby d11_0) rfl rfl zz) ?_
  obtain ⟨Tt77, Xt77, et77, stt77⟩ := getF X0 hx hZ hown (host := "") (Or.inl (hw _ (List.mem_of_getElem? (i := 55) rfl))) Via.refl e0 F (g := (mkF m 1 #[.val (.ref a)] [(.ref a)])) rfl rfl (hb hby d11_1)
  refine Gl.st (U' := (Tt77.setTop (mkF m 4 #[.val (.ref a)] [vt]))) stt77 ?_
  exact Gl.retA Xt77 hx hret rfl hlk hvt (hb hby d11_4) ⟨rfl, rfl, et77⟩ (by decide) (by decide)
theorem own_pd1 : parseMethodDescriptor "(I)Lcom/example/rungsight/rungsight/types/IntegerType;" = some ⟨[.int], some (.object "com/example/rungsight/rungsight/types/IntegerType")⟩ := by decide +kernel
theorem own_pd2 : parseMethodDescriptor "(I)Lcom/example/rungsight/rungsight/flow/Variable$Origin;" = some ⟨[.int], some (.object "com/example/rungsight/rungsight/flow/Variable$Origin")⟩ := by decide +kernel
theorem own_pd3 : (parseMethodDescriptor site_134.desc).map (fun s => s.parameters.length) = some 10 := by decide +kernel
theorem own_pd4 : parseMethodDescriptor "()Z" = some ⟨[], some .boolean⟩ := by decide +kernel
theorem own_pd5 : parseMethodDescriptor "()Lcom/example/rungsight/rungsight/types/IntegerType;" = some ⟨[], some (.object "com/example/rungsight/rungsight/types/IntegerType")⟩ := by decide +kernel
theorem own_pdS : parseMethodDescriptor "([C)V" = some ⟨[.array .char], none⟩ := by decide +kernel
set_option maxRecDepth 65536 in
set_option maxHeartbeats 40000000 in
theorem own_law (l : Launch) (Z : State) (a0 : Array Value) (hw : ∀ d ∈ tables_1, d.before a0 Z = true) (h0 : Heap) (n0 : Nat) (O0 : Old Z n0 h0) (t0 t1 t2 t3 t4 t5 t6 t7 t8 t9 t10 t11 o0 o1 o2 o3 o4 : Addr) (hS : own_S Z Z.heap t0 t1 t2 t3 t4 t5 t6 t7 t8 t9 t10 t11) (hO : own_O Z Z.heap o0 o1 o2 o3 o4) (G1 : Int32) (SC : Sta Z Z.heap "java/lang/String" "COMPACT_STRINGS" "Z" (.int G1)) (PC : ¬ G1 = 0) (p0 p1 p2 p3 p4 p5 : Int32) :
    Con tables_1 l Z x code maxLocals ret room_1 #[(.int p0), (.int p1), (.int p2), (.int p3), (.int p4), (.int p5)] h0 (fun v h L => v = some (.int 1) ∧ Fr n0 L) := by
  refine Con.of (Ls := #[.val (.int p0), .val (.int p1), .val (.int p2), .val (.int p3), .val (.int p4), .val (.int p5), .unset, .unset, .unset, .unset, .unset, .unset, .unset]) (by first | exact plainFor_of_name (by first | (simp [plainName, overriddenIn]; done) | decide +kernel) | decide +kernel) (fun m => by first | (simp [entryFrame, mkF, argsToLocals, Value.category]; done) | (simp [entryFrame, mkF, argsToLocals, Value.category, maxLocals]; done) | rfl) ?_
  intro p e s m below meth c T0 hx hby hml hown hnm hret hlk hZ e0 X0
  have hml : c.maxLocals = 13 := hml
  have hws : ∀ d ∈ StrChars.Road.words, d.before a0 Z = true := fun d hd => hw d ((by decide +kernel : ∀ d ∈ StrChars.Road.words, d ∈ tables_1) d hd)
  have NF0 := Fr.nil n0
  refine Gl.st (U' := (T0.setTop (mkF m 1 #[.val (.int p0), .val (.int p1), .val (.int p2), .val (.int p3), .val (.int p4), .val (.int p5), .unset, .unset, .unset, .unset, .unset, .unset, .unset] [(.int p0)]))) (fun _ zz => XS.iloadN X0.here hx rfl (hb hby at_0) rfl zz) ?_
  refine Gl.st (U' := (T0.setTop (mkF m 3 #[.val (.int p0), .val (.int p1), .val (.int p2), .val (.int p3), .val (.int p4), .val (.int p5), .unset, .unset, .unset, .unset, .unset, .unset, .unset] [(.int (2147483647 : Int32)), (.int p0)]))) (fun _ zz => Jvm.Stand.ldcI (g := (mkF m 1 #[.val (.int p0), .val (.int p1), .val (.int p2), .val (.int p3), .val (.int p4), .val (.int p5), .unset, .unset, .unset, .unset, .unset, .unset, .unset] [(.int p0)])) X0 hx hown (mvT hZ (hw _ (List.mem_of_getElem? (i := 0) rfl))) rfl (hb hby at_1) zz) ?_
  refine Gl.st (U' := (T0.setTop (mkF m 4 #[.val (.int p0), .val (.int p1), .val (.int p2), .val (.int p3), .val (.int p4), .val (.int p5), .unset, .unset, .unset, .unset, .unset, .unset, .unset] [(.int (p0 &&& (2147483647 : Int32)))]))) (fun _ zz => XS.iand X0.here hx rfl (hb hby at_3) rfl zz) ?_
  refine Gl.st (U' := (T0.setTop (mkF m 6 #[.val (.int p0), .val (.int p1), .val (.int p2), .val (.int p3), .val (.int p4), .val (.int p5), .unset, .unset, .unset, .unset, .unset, .unset, .unset] [(.int (13 : Int32)), (.int (p0 &&& (2147483647 : Int32)))]))) (fun _ zz => XS.bipush X0.here hx rfl (hb hby at_4) zz) ?_
  refine Gl.st (U' := (T0.setTop (mkF m 7 #[.val (.int p0), .val (.int p1), .val (.int p2), .val (.int p3), .val (.int p4), .val (.int p5), .unset, .unset, .unset, .unset, .unset, .unset, .unset] [(.int ((p0 &&& (2147483647 : Int32)) % (13 : Int32)))]))) (fun _ zz => iremM (g := (mkF m 6 #[.val (.int p0), .val (.int p1), .val (.int p2), .val (.int p3), .val (.int p4), .val (.int p5), .unset, .unset, .unset, .unset, .unset, .unset, .unset] [(.int (13 : Int32)), (.int (p0 &&& (2147483647 : Int32)))])) X0 hx rfl (hb hby at_6) rfl (by decide) zz) ?_
  have r1 := own_rng p0 13 (by decide)
  generalize ((p0 &&& (2147483647 : Int32)) % (13 : Int32)) = ta at r1 ⊢
  refine Gl.st (U' := (T0.setTop (mkF m 9 #[.val (.int p0), .val (.int p1), .val (.int p2), .val (.int p3), .val (.int p4), .val (.int p5), .val (.int ta), .unset, .unset, .unset, .unset, .unset, .unset] []))) (fun _ zz => XS.istore X0.here hx rfl (hb hby at_7) rfl (l' := #[.val (.int p0), .val (.int p1), .val (.int p2), .val (.int p3), .val (.int p4), .val (.int p5), .val (.int ta), .unset, .unset, .unset, .unset, .unset, .unset]) rfl zz) ?_
  refine Gl.st (U' := (T0.setTop (mkF m 11 #[.val (.int p0), .val (.int p1), .val (.int p2), .val (.int p3), .val (.int p4), .val (.int p5), .val (.int ta), .unset, .unset, .unset, .unset, .unset, .unset] [(.int ta)]))) (fun _ zz => XS.iload X0.here hx rfl (hb hby at_9) rfl zz) ?_
  refine gCallS X0 hx hZ (y := (⟨"com/example/rungsight/rungsight/flow/VariableIsIntegerPinLaw", "typeOf", "(I)Lcom/example/rungsight/rungsight/types/IntegerType;"⟩ : MethodName)) hown (hw _ (List.mem_of_getElem? (i := 1) rfl)) (hw _ (List.mem_of_getElem? (i := 2) rfl)) (hw _ (List.mem_of_getElem? (i := 3) rfl)) (hw _ (List.mem_of_getElem? (i := 4) rfl)) (by decide) (own_type_con l Z a0 hw h0 t0 t1 t2 t3 t4 t5 t6 t7 t8 t9 t10 t11 (own_S_ext O0.2 hS) ta) e0 (by decide) (W := 0) (by decide) (by decide) (by decide) (g := (mkF m 11 #[.val (.int p0), .val (.int p1), .val (.int p2), .val (.int p3), .val (.int p4), .val (.int p5), .val (.int ta), .unset, .unset, .unset, .unset, .unset, .unset] [(.int ta)])) rfl (by rw [hml]; rfl) (argsL := [(.int ta)]) (rest := []) (lenOf own_pd1 rfl) rfl rfl (by show 2 * 0 + _ ≤ _; exact Nat.le_of_eq rfl) (hb hby at_11) ?_
  rintro _ Tt78 Lt78 Xt78 ⟨rfl, rfl, et78⟩
  show Gl p e below _ (Tt78.setTop (mkF m 14 #[.val (.int p0), .val (.int p1), .val (.int p2), .val (.int p3), .val (.int p4), .val (.int p5), .val (.int ta), .unset, .unset, .unset, .unset, .unset, .unset] [(own_type t0 t1 t2 t3 t4 t5 t6 t7 t8 t9 t10 t11 ta)]))
  obtain ⟨vA, hvA⟩ : ∃ z, z = own_type t0 t1 t2 t3 t4 t5 t6 t7 t8 t9 t10 t11 ta := ⟨_, rfl⟩
  rw [← hvA]
  have hrA : vA.isRef = true := hvA ▸ own_type_ref t0 t1 t2 t3 t4 t5 t6 t7 t8 t9 t10 t11 ta
  refine Gl.st (U' := (Tt78.setTop (mkF m 16 #[.val (.int p0), .val (.int p1), .val (.int p2), .val (.int p3), .val (.int p4), .val (.int p5), .val (.int ta), .val vA, .unset, .unset, .unset, .unset, .unset] []))) (fun _ zz => XS.astoreS Xt78.here hx rfl (hb hby at_14) rfl hrA (own_cat1 hrA) rfl (Or.inl rfl) zz) ?_
  refine Gl.st (U' := (Tt78.setTop (mkF m 17 #[.val (.int p0), .val (.int p1), .val (.int p2), .val (.int p3), .val (.int p4), .val (.int p5), .val (.int ta), .val vA, .unset, .unset, .unset, .unset, .unset] [(.int p2)]))) (fun _ zz => XS.iloadN Xt78.here hx rfl (hb hby at_16) rfl zz) ?_
  refine Gl.st (U' := (Tt78.setTop (mkF m 19 #[.val (.int p0), .val (.int p1), .val (.int p2), .val (.int p3), .val (.int p4), .val (.int p5), .val (.int ta), .val vA, .unset, .unset, .unset, .unset, .unset] [(.int (2147483647 : Int32)), (.int p2)]))) (fun _ zz => Jvm.Stand.ldcI (g := (mkF m 17 #[.val (.int p0), .val (.int p1), .val (.int p2), .val (.int p3), .val (.int p4), .val (.int p5), .val (.int ta), .val vA, .unset, .unset, .unset, .unset, .unset] [(.int p2)])) Xt78 hx hown (mvT hZ (hw _ (List.mem_of_getElem? (i := 0) rfl))) rfl (hb hby at_17) zz) ?_
  refine Gl.st (U' := (Tt78.setTop (mkF m 20 #[.val (.int p0), .val (.int p1), .val (.int p2), .val (.int p3), .val (.int p4), .val (.int p5), .val (.int ta), .val vA, .unset, .unset, .unset, .unset, .unset] [(.int (p2 &&& (2147483647 : Int32)))]))) (fun _ zz => XS.iand Xt78.here hx rfl (hb hby at_19) rfl zz) ?_
  refine Gl.st (U' := (Tt78.setTop (mkF m 21 #[.val (.int p0), .val (.int p1), .val (.int p2), .val (.int p3), .val (.int p4), .val (.int p5), .val (.int ta), .val vA, .unset, .unset, .unset, .unset, .unset] [(.int (5 : Int32)), (.int (p2 &&& (2147483647 : Int32)))]))) (fun _ zz => XS.iconst Xt78.here hx rfl (hb hby at_20) zz) ?_
  refine Gl.st (U' := (Tt78.setTop (mkF m 22 #[.val (.int p0), .val (.int p1), .val (.int p2), .val (.int p3), .val (.int p4), .val (.int p5), .val (.int ta), .val vA, .unset, .unset, .unset, .unset, .unset] [(.int ((p2 &&& (2147483647 : Int32)) % (5 : Int32)))]))) (fun _ zz => iremM (g := (mkF m 21 #[.val (.int p0), .val (.int p1), .val (.int p2), .val (.int p3), .val (.int p4), .val (.int p5), .val (.int ta), .val vA, .unset, .unset, .unset, .unset, .unset] [(.int (5 : Int32)), (.int (p2 &&& (2147483647 : Int32)))])) Xt78 hx rfl (hb hby at_21) rfl (by decide) zz) ?_
  refine gCallS Xt78 hx hZ (y := (⟨"com/example/rungsight/rungsight/flow/VariableIsIntegerPinLaw", "originOf", "(I)Lcom/example/rungsight/rungsight/flow/Variable$Origin;"⟩ : MethodName)) hown (hw _ (List.mem_of_getElem? (i := 8) rfl)) (hw _ (List.mem_of_getElem? (i := 9) rfl)) (hw _ (List.mem_of_getElem? (i := 3) rfl)) (hw _ (List.mem_of_getElem? (i := 10) rfl)) (by decide) (own_orig_con l Z a0 hw h0 o0 o1 o2 o3 o4 (own_O_ext O0.2 hO) ((p2 &&& (2147483647 : Int32)) % (5 : Int32))) et78 (by decide) (W := 0) (by decide) (by decide) (by decide) (g := (mkF m 22 #[.val (.int p0), .val (.int p1), .val (.int p2), .val (.int p3), .val (.int p4), .val (.int p5), .val (.int ta), .val vA, .unset, .unset, .unset, .unset, .unset] [(.int ((p2 &&& (2147483647 : Int32)) % (5 : Int32)))])) rfl (by rw [hml]; rfl) (argsL := [(.int ((p2 &&& (2147483647 : Int32)) % (5 : Int32)))]) (rest := []) (lenOf own_pd2 rfl) rfl rfl (by show 2 * 0 + _ ≤ _; exact Nat.le_of_eq rfl) (hb hby at_22) ?_
  rintro _ Tt79 Lt79 Xt79 ⟨rA, rfl, rfl, et79⟩
  show Gl p e below _ (Tt79.setTop (mkF m 25 #[.val (.int p0), .val (.int p1), .val (.int p2), .val (.int p3), .val (.int p4), .val (.int p5), .val (.int ta), .val vA, .unset, .unset, .unset, .unset, .unset] [(.ref rA)]))
  refine Gl.st (U' := (Tt79.setTop (mkF m 27 #[.val (.int p0), .val (.int p1), .val (.int p2), .val (.int p3), .val (.int p4), .val (.int p5), .val (.int ta), .val vA, .val (.ref rA), .unset, .unset, .unset, .unset] []))) (fun _ zz => XS.astore Xt79.here hx rfl (hb hby at_25) rfl rfl (l' := #[.val (.int p0), .val (.int p1), .val (.int p2), .val (.int p3), .val (.int p4), .val (.int p5), .val (.int ta), .val vA, .val (.ref rA), .unset, .unset, .unset, .unset]) rfl zz) ?_
  refine Gl.st (U' := (Tt79.setTop (mkF m 28 #[.val (.int p0), .val (.int p1), .val (.int p2), .val (.int p3), .val (.int p4), .val (.int p5), .val (.int ta), .val vA, .val (.ref rA), .unset, .unset, .unset, .unset] [(.int (2 : Int32))]))) (fun _ zz => XS.iconst Xt79.here hx rfl (hb hby at_27) zz) ?_
  obtain ⟨Tt80, ht80, kt80, Xt80, et80, Et80, At80, stt80⟩ := newP Xt79 hx hZ (hw _ (List.mem_of_getElem? (i := 14) rfl)) et79 (g := (mkF m 28 #[.val (.int p0), .val (.int p1), .val (.int p2), .val (.int p3), .val (.int p4), .val (.int p5), .val (.int ta), .val vA, .val (.ref rA), .unset, .unset, .unset, .unset] [(.int (2 : Int32))])) rfl (hb hby at_28) rfl (by decide : ¬ ((2 : Int32) < (0 : Int32))) (cap := 2) (by decide) (by decide) (by decide) (by decide)
  obtain ⟨at80, gt80⟩ : ∃ z, z = h0.size := ⟨_, rfl⟩
  rw [← gt80] at At80 stt80
  refine Gl.st (U' := (Tt80.setTop (mkF m 30 #[.val (.int p0), .val (.int p1), .val (.int p2), .val (.int p3), .val (.int p4), .val (.int p5), .val (.int ta), .val vA, .val (.ref rA), .unset, .unset, .unset, .unset] [(.ref at80)]))) stt80 ?_
  have gat81 := (show n0 ≤ at80 by rw [gt80]; exact Nat.le_trans (Nat.le_of_eq O0.1.symm) O0.2.1)
  have Ot82 := Old.ext O0 Et80
  have Vt83 := (Arv.new At80 (by decide) : Arv Z ht80 at80 kt80 .char (2 : Int32) [] (.int (0 : Int32)))
  have Vt84 := (Arv.pad Vt83 (pad_rep [] (.int (0 : Int32)) 2) : Arv Z ht80 at80 kt80 .char (2 : Int32) [(.int (0 : Int32)), (.int (0 : Int32))] (.int (0 : Int32)))
  refine Gl.st (U' := (Tt80.setTop (mkF m 32 #[.val (.int p0), .val (.int p1), .val (.int p2), .val (.int p3), .val (.int p4), .val (.int p5), .val (.int ta), .val vA, .val (.ref rA), .val (.ref at80), .unset, .unset, .unset] []))) (fun _ zz => XS.astore Xt80.here hx rfl (hb hby at_30) rfl rfl (l' := #[.val (.int p0), .val (.int p1), .val (.int p2), .val (.int p3), .val (.int p4), .val (.int p5), .val (.int ta), .val vA, .val (.ref rA), .val (.ref at80), .unset, .unset, .unset]) rfl zz) ?_
  refine Gl.st (U' := (Tt80.setTop (mkF m 34 #[.val (.int p0), .val (.int p1), .val (.int p2), .val (.int p3), .val (.int p4), .val (.int p5), .val (.int ta), .val vA, .val (.ref rA), .val (.ref at80), .unset, .unset, .unset] [(.ref at80)]))) (fun _ zz => XS.aload Xt80.here hx rfl (hb hby at_32) rfl rfl zz) ?_
  refine Gl.st (U' := (Tt80.setTop (mkF m 35 #[.val (.int p0), .val (.int p1), .val (.int p2), .val (.int p3), .val (.int p4), .val (.int p5), .val (.int ta), .val vA, .val (.ref rA), .val (.ref at80), .unset, .unset, .unset] [(.int (0 : Int32)), (.ref at80)]))) (fun _ zz => XS.iconst Xt80.here hx rfl (hb hby at_34) zz) ?_
  refine Gl.st (U' := (Tt80.setTop (mkF m 37 #[.val (.int p0), .val (.int p1), .val (.int p2), .val (.int p3), .val (.int p4), .val (.int p5), .val (.int ta), .val vA, .val (.ref rA), .val (.ref at80), .unset, .unset, .unset] [(.int p4), (.int (0 : Int32)), (.ref at80)]))) (fun _ zz => XS.iload Xt80.here hx rfl (hb hby at_35) rfl zz) ?_
  refine Gl.st (U' := (Tt80.setTop (mkF m 40 #[.val (.int p0), .val (.int p1), .val (.int p2), .val (.int p3), .val (.int p4), .val (.int p5), .val (.int ta), .val vA, .val (.ref rA), .val (.ref at80), .unset, .unset, .unset] [(.int (255 : Int32)), (.int p4), (.int (0 : Int32)), (.ref at80)]))) (fun _ zz => XS.sipush Xt80.here hx rfl (hb hby at_37) zz) ?_
  refine Gl.st (U' := (Tt80.setTop (mkF m 41 #[.val (.int p0), .val (.int p1), .val (.int p2), .val (.int p3), .val (.int p4), .val (.int p5), .val (.int ta), .val vA, .val (.ref rA), .val (.ref at80), .unset, .unset, .unset] [(.int (p4 &&& (255 : Int32))), (.int (0 : Int32)), (.ref at80)]))) (fun _ zz => XS.iand Xt80.here hx rfl (hb hby at_40) rfl zz) ?_
  refine Gl.st (U' := (Tt80.setTop (mkF m 42 #[.val (.int p0), .val (.int p1), .val (.int p2), .val (.int p3), .val (.int p4), .val (.int p5), .val (.int ta), .val vA, .val (.ref rA), .val (.ref at80), .unset, .unset, .unset] [(.int ((p4 &&& (255 : Int32)).toUInt32.toUInt16.toUInt32.toInt32)), (.int (0 : Int32)), (.ref at80)]))) (fun _ zz => XT.i2c Xt80.here hx rfl (hb hby at_41) rfl zz) ?_
  obtain ⟨ct85, At85, qt85, St85, Mt85, Ht85, Ut85⟩ := id Vt84
  obtain ⟨Tt85, ht85, Xt85, et85, Wt85, stt85⟩ := stC Xt80 hx hZ et80 At85 (j := (0 : Int32)) (inb_of St85 ⟨by decide, by decide⟩) (g := (mkF m 42 #[.val (.int p0), .val (.int p1), .val (.int p2), .val (.int p3), .val (.int p4), .val (.int p5), .val (.int ta), .val vA, .val (.ref rA), .val (.ref at80), .unset, .unset, .unset] [(.int ((p4 &&& (255 : Int32)).toUInt32.toUInt16.toUInt32.toInt32)), (.int (0 : Int32)), (.ref at80)])) rfl rfl (hb hby at_42)
  refine Gl.st (U' := (Tt85.setTop (mkF m 43 #[.val (.int p0), .val (.int p1), .val (.int p2), .val (.int p3), .val (.int p4), .val (.int p5), .val (.int ta), .val vA, .val (.ref rA), .val (.ref at80), .unset, .unset, .unset] []))) stt85 ?_
  have Nt86 := Fr.snoc Xt85 NF0 gat81
  have Vt87 := (Arv.set At85 qt85 St85 Mt85 Ht85 Ut85 (fits_nar_char _) Wt85 0 rfl (Nat.le_of_ble_eq_true rfl) : Arv Z ht85 at80 kt80 .char (2 : Int32) [(.int (nar .char ((p4 &&& (255 : Int32)).toUInt32.toUInt16.toUInt32.toInt32))), (.int (0 : Int32))] (.int (0 : Int32)))
  have Ot88 := Old.wr Ot82 Wt85 gat81
  refine Gl.st (U' := (Tt85.setTop (mkF m 45 #[.val (.int p0), .val (.int p1), .val (.int p2), .val (.int p3), .val (.int p4), .val (.int p5), .val (.int ta), .val vA, .val (.ref rA), .val (.ref at80), .unset, .unset, .unset] [(.ref at80)]))) (fun _ zz => XS.aload Xt85.here hx rfl (hb hby at_43) rfl rfl zz) ?_
  refine Gl.st (U' := (Tt85.setTop (mkF m 46 #[.val (.int p0), .val (.int p1), .val (.int p2), .val (.int p3), .val (.int p4), .val (.int p5), .val (.int ta), .val vA, .val (.ref rA), .val (.ref at80), .unset, .unset, .unset] [(.int (1 : Int32)), (.ref at80)]))) (fun _ zz => XS.iconst Xt85.here hx rfl (hb hby at_45) zz) ?_
  refine Gl.st (U' := (Tt85.setTop (mkF m 48 #[.val (.int p0), .val (.int p1), .val (.int p2), .val (.int p3), .val (.int p4), .val (.int p5), .val (.int ta), .val vA, .val (.ref rA), .val (.ref at80), .unset, .unset, .unset] [(.int p5), (.int (1 : Int32)), (.ref at80)]))) (fun _ zz => XS.iload Xt85.here hx rfl (hb hby at_46) rfl zz) ?_
  refine Gl.st (U' := (Tt85.setTop (mkF m 51 #[.val (.int p0), .val (.int p1), .val (.int p2), .val (.int p3), .val (.int p4), .val (.int p5), .val (.int ta), .val vA, .val (.ref rA), .val (.ref at80), .unset, .unset, .unset] [(.int (255 : Int32)), (.int p5), (.int (1 : Int32)), (.ref at80)]))) (fun _ zz => XS.sipush Xt85.here hx rfl (hb hby at_48) zz) ?_
  refine Gl.st (U' := (Tt85.setTop (mkF m 52 #[.val (.int p0), .val (.int p1), .val (.int p2), .val (.int p3), .val (.int p4), .val (.int p5), .val (.int ta), .val vA, .val (.ref rA), .val (.ref at80), .unset, .unset, .unset] [(.int (p5 &&& (255 : Int32))), (.int (1 : Int32)), (.ref at80)]))) (fun _ zz => XS.iand Xt85.here hx rfl (hb hby at_51) rfl zz) ?_
  refine Gl.st (U' := (Tt85.setTop (mkF m 53 #[.val (.int p0), .val (.int p1), .val (.int p2), .val (.int p3), .val (.int p4), .val (.int p5), .val (.int ta), .val vA, .val (.ref rA), .val (.ref at80), .unset, .unset, .unset] [(.int ((p5 &&& (255 : Int32)).toUInt32.toUInt16.toUInt32.toInt32)), (.int (1 : Int32)), (.ref at80)]))) (fun _ zz => XT.i2c Xt85.here hx rfl (hb hby at_52) rfl zz) ?_
  obtain ⟨ct89, At89, qt89, St89, Mt89, Ht89, Ut89⟩ := id Vt87
  obtain ⟨Tt89, ht89, Xt89, et89, Wt89, stt89⟩ := stC Xt85 hx hZ et85 At89 (j := (1 : Int32)) (inb_of St89 ⟨by decide, by decide⟩) (g := (mkF m 53 #[.val (.int p0), .val (.int p1), .val (.int p2), .val (.int p3), .val (.int p4), .val (.int p5), .val (.int ta), .val vA, .val (.ref rA), .val (.ref at80), .unset, .unset, .unset] [(.int ((p5 &&& (255 : Int32)).toUInt32.toUInt16.toUInt32.toInt32)), (.int (1 : Int32)), (.ref at80)])) rfl rfl (hb hby at_53)
  refine Gl.st (U' := (Tt89.setTop (mkF m 54 #[.val (.int p0), .val (.int p1), .val (.int p2), .val (.int p3), .val (.int p4), .val (.int p5), .val (.int ta), .val vA, .val (.ref rA), .val (.ref at80), .unset, .unset, .unset] []))) stt89 ?_
  have Nt90 := Fr.snoc Xt89 Nt86 gat81
  have Vt91 := (Arv.set At89 qt89 St89 Mt89 Ht89 Ut89 (fits_nar_char _) Wt89 1 rfl (Nat.le_of_ble_eq_true rfl) : Arv Z ht89 at80 kt80 .char (2 : Int32) [(.int (nar .char ((p4 &&& (255 : Int32)).toUInt32.toUInt16.toUInt32.toInt32))), (.int (nar .char ((p5 &&& (255 : Int32)).toUInt32.toUInt16.toUInt32.toInt32)))] (.int (0 : Int32)))
  have Ot92 := Old.wr Ot88 Wt89 gat81
  obtain ⟨Tt93, ht93, Xt93, et93, Et93, At93, Dt93, Mt93, stt93⟩ := newO Xt89 hx hZ hown (hw _ (List.mem_of_getElem? (i := 15) rfl)) (hw _ (List.mem_of_getElem? (i := 16) rfl)) (hw _ (List.mem_of_getElem? (i := 17) rfl)) et89 (g := (mkF m 54 #[.val (.int p0), .val (.int p1), .val (.int p2), .val (.int p3), .val (.int p4), .val (.int p5), .val (.int ta), .val vA, .val (.ref rA), .val (.ref at80), .unset, .unset, .unset] [])) rfl (hb hby at_54) (by decide) (by decide)
  obtain ⟨at93, gt93⟩ : ∃ z, z = ht89.size := ⟨_, rfl⟩
  rw [← gt93] at At93 Dt93 Mt93 stt93
  refine Gl.st (U' := (Tt93.setTop (mkF m 57 #[.val (.int p0), .val (.int p1), .val (.int p2), .val (.int p3), .val (.int p4), .val (.int p5), .val (.int ta), .val vA, .val (.ref rA), .val (.ref at80), .unset, .unset, .unset] [(.ref at93)]))) stt93 ?_
  have net94 := (show at80 ≠ at93 by rw [gt93]; exact Nat.ne_of_lt (Arv.lt Vt91))
  have gat95 := (show n0 ≤ at93 by rw [gt93]; exact Nat.le_trans (Nat.le_of_eq Ot92.1.symm) Ot92.2.1)
  have Vt96 := Arv.ext Vt91 Et93
  have Ot97 := Old.ext Ot92 Et93
  have Kt98 := own_K_new Mt93
  refine Gl.st (U' := (Tt93.setTop (mkF m 58 #[.val (.int p0), .val (.int p1), .val (.int p2), .val (.int p3), .val (.int p4), .val (.int p5), .val (.int ta), .val vA, .val (.ref rA), .val (.ref at80), .unset, .unset, .unset] [(.ref at93), (.ref at93)]))) (fun _ zz => XS.dup Xt93.here hx rfl (hb hby at_57) rfl rfl zz) ?_
  refine Gl.st (U' := (Tt93.setTop (mkF m 60 #[.val (.int p0), .val (.int p1), .val (.int p2), .val (.int p3), .val (.int p4), .val (.int p5), .val (.int ta), .val vA, .val (.ref rA), .val (.ref at80), .unset, .unset, .unset] [(.ref at80), (.ref at93), (.ref at93)]))) (fun _ zz => XS.aload Xt93.here hx rfl (hb hby at_58) rfl rfl zz) ?_
  obtain ⟨ot100, Ft100⟩ := fld_laid At93 Kt98 (hw _ (List.mem_of_getElem? (i := 16) rfl)) (Or.inr (hw _ (List.mem_of_getElem? (i := 43) rfl)))
  obtain ⟨ot101, Ft101⟩ := fld_laid At93 Kt98 (hw _ (List.mem_of_getElem? (i := 16) rfl)) (Or.inr (hw _ (List.mem_of_getElem? (i := 41) rfl)))
  have hlatt99 : ∀ c ∈ [(nar .char ((p4 &&& (255 : Int32)).toUInt32.toUInt16.toUInt32.toInt32)), (nar .char ((p5 &&& (255 : Int32)).toUInt32.toUInt16.toUInt32.toInt32))], ¬ c < 0 ∧ ¬ (255 : Int32) < c := by
    intro c hc
    simp only [List.mem_cons, List.not_mem_nil, or_false] at hc
    rcases hc with rfl | rfl
    · rw [show nar .char ((p4 &&& (255 : Int32)).toUInt32.toUInt16.toUInt32.toInt32) = p4 &&& 255 from by simp only [nar, i2c_mask]]; exact own_and255 p4
    · rw [show nar .char ((p5 &&& (255 : Int32)).toUInt32.toUInt16.toUInt32.toInt32) = p5 &&& 255 from by simp only [nar, i2c_mask]]; exact own_and255 p5
  have hzt99 : n0 ≤ ht93.size := Nat.le_trans (Nat.le_of_eq Ot97.1.symm) Ot97.2.1
  refine gBackI Xt93 hx hZ (y := (⟨"java/lang/String", "<init>", "([C)V"⟩ : MethodName)) rfl hown (hw _ (List.mem_of_getElem? (i := 18) rfl)) (hw _ (List.mem_of_getElem? (i := 19) rfl)) (hw _ (List.mem_of_getElem? (i := 20) rfl)) (by decide) (StrChars.Road.backV (W := 1) hZ hws (kI := 4) (hw _ (List.mem_of_getElem? (i := 16) rfl)) (cs := [(nar .char ((p4 &&& (255 : Int32)).toUInt32.toUInt16.toUInt32.toInt32)), (nar .char ((p5 &&& (255 : Int32)).toUInt32.toUInt16.toUInt32.toInt32))]) (bs := [((nar .char ((p4 &&& (255 : Int32)).toUInt32.toUInt16.toUInt32.toInt32))).toInt8.toInt32, ((nar .char ((p5 &&& (255 : Int32)).toUInt32.toUInt16.toUInt32.toInt32))).toInt8.toInt32]) (n := 2) gat95 hzt99 At93 Ft100 Ft101 Vt96 (SC.ext Ot97.2) PC rfl rfl (by decide) (by decide) hlatt99 rfl (by decide) (by decide)) et93 (by decide) (by decide) (g := (mkF m 60 #[.val (.int p0), .val (.int p1), .val (.int p2), .val (.int p3), .val (.int p4), .val (.int p5), .val (.int ta), .val vA, .val (.ref rA), .val (.ref at80), .unset, .unset, .unset] [(.ref at80), (.ref at93), (.ref at93)])) rfl (by rw [hml]; rfl) (argsL := [(.ref at80)]) (rest := [(.ref at93)]) (lenOf own_pdS rfl) rfl rfl (by show 2 * 0 + _ ≤ _; exact Nat.le_of_eq rfl) (hb hby at_60) ?_
  rintro _ Tt99 Lt99 Xt99 ⟨rfl, Nt99, Pt99, EXt99, -, -⟩
  show Gl p e below _ (Tt99.setTop (mkF m 63 #[.val (.int p0), .val (.int p1), .val (.int p2), .val (.int p3), .val (.int p4), .val (.int p5), .val (.int ta), .val vA, .val (.ref rA), .val (.ref at80), .unset, .unset, .unset] [(.ref at93)]))
  have Nt102 := Fr.app Nt90 Nt99
  have Ot103 := Old.keep Ot97 Pt99 (allS gat95 all0)
  have Kt104 := own_K_keep Pt99 Kt98
  refine Gl.st (U' := (Tt99.setTop (mkF m 65 #[.val (.int p0), .val (.int p1), .val (.int p2), .val (.int p3), .val (.int p4), .val (.int p5), .val (.int ta), .val vA, .val (.ref rA), .val (.ref at80), .val (.ref at93), .unset, .unset] []))) (fun _ zz => XS.astore Xt99.here hx rfl (hb hby at_63) rfl rfl (l' := #[.val (.int p0), .val (.int p1), .val (.int p2), .val (.int p3), .val (.int p4), .val (.int p5), .val (.int ta), .val vA, .val (.ref rA), .val (.ref at80), .val (.ref at93), .unset, .unset]) rfl zz) ?_
  obtain ⟨Tt105, ht105, Xt105, et105, Et105, At105, Dt105, Mt105, stt105⟩ := newO Xt99 hx hZ hown (hw _ (List.mem_of_getElem? (i := 44) rfl)) (hw _ (List.mem_of_getElem? (i := 45) rfl)) (hw _ (List.mem_of_getElem? (i := 46) rfl)) (rfl : Tt99.heap = Tt99.heap) (g := (mkF m 65 #[.val (.int p0), .val (.int p1), .val (.int p2), .val (.int p3), .val (.int p4), .val (.int p5), .val (.int ta), .val vA, .val (.ref rA), .val (.ref at80), .val (.ref at93), .unset, .unset] [])) rfl (hb hby at_65) (by decide) (by decide)
  obtain ⟨at105, gt105⟩ : ∃ z, z = Tt99.heap.size := ⟨_, rfl⟩
  rw [← gt105] at At105 Dt105 Mt105 stt105
  refine Gl.st (U' := (Tt105.setTop (mkF m 68 #[.val (.int p0), .val (.int p1), .val (.int p2), .val (.int p3), .val (.int p4), .val (.int p5), .val (.int ta), .val vA, .val (.ref rA), .val (.ref at80), .val (.ref at93), .unset, .unset] [(.ref at105)]))) stt105 ?_
  have net106 := (show at93 ≠ at105 by rw [gt105]; exact Nat.ne_of_lt (Exa.lt EXt99))
  have gat107 := (show n0 ≤ at105 by rw [gt105]; exact Nat.le_trans (Nat.le_of_eq Ot103.1.symm) Ot103.2.1)
  have Et108 := Exa.ext Et105 EXt99
  have Kt109 := own_K_ext Et105 Kt104
  have Ot110 := Old.ext Ot103 Et105
  have Kt111 := own_K_new Mt105
  refine Gl.st (U' := (Tt105.setTop (mkF m 69 #[.val (.int p0), .val (.int p1), .val (.int p2), .val (.int p3), .val (.int p4), .val (.int p5), .val (.int ta), .val vA, .val (.ref rA), .val (.ref at80), .val (.ref at93), .unset, .unset] [(.ref at105), (.ref at105)]))) (fun _ zz => XS.dup Xt105.here hx rfl (hb hby at_68) rfl rfl zz) ?_
  refine Gl.st (U' := (Tt105.setTop (mkF m 71 #[.val (.int p0), .val (.int p1), .val (.int p2), .val (.int p3), .val (.int p4), .val (.int p5), .val (.int ta), .val vA, .val (.ref rA), .val (.ref at80), .val (.ref at93), .unset, .unset] [(.ref at93), (.ref at105), (.ref at105)]))) (fun _ zz => XS.aload Xt105.here hx rfl (hb hby at_69) rfl rfl zz) ?_
  refine Gl.st (U' := (Tt105.setTop (mkF m 73 #[.val (.int p0), .val (.int p1), .val (.int p2), .val (.int p3), .val (.int p4), .val (.int p5), .val (.int ta), .val vA, .val (.ref rA), .val (.ref at80), .val (.ref at93), .unset, .unset] [vA, (.ref at93), (.ref at105), (.ref at105)]))) (fun _ zz => XS.aload Xt105.here hx rfl (hb hby at_71) rfl hrA zz) ?_
  refine Gl.st (U' := (Tt105.setTop (mkF m 74 #[.val (.int p0), .val (.int p1), .val (.int p2), .val (.int p3), .val (.int p4), .val (.int p5), .val (.int ta), .val vA, .val (.ref rA), .val (.ref at80), .val (.ref at93), .unset, .unset] [(.int p1), vA, (.ref at93), (.ref at105), (.ref at105)]))) (fun _ zz => XS.iloadN Xt105.here hx rfl (hb hby at_73) rfl zz) ?_
  refine Gl.st (U' := (Tt105.setTop (mkF m 76 #[.val (.int p0), .val (.int p1), .val (.int p2), .val (.int p3), .val (.int p4), .val (.int p5), .val (.int ta), .val vA, .val (.ref rA), .val (.ref at80), .val (.ref at93), .unset, .unset] [(.ref rA), (.int p1), vA, (.ref at93), (.ref at105), (.ref at105)]))) (fun _ zz => XS.aload Xt105.here hx rfl (hb hby at_74) rfl rfl zz) ?_
  refine Gl.st (U' := (Tt105.setTop (mkF m 77 #[.val (.int p0), .val (.int p1), .val (.int p2), .val (.int p3), .val (.int p4), .val (.int p5), .val (.int ta), .val vA, .val (.ref rA), .val (.ref at80), .val (.ref at93), .unset, .unset] [(.int p3), (.ref rA), (.int p1), vA, (.ref at93), (.ref at105), (.ref at105)]))) (fun _ zz => XS.iloadN Xt105.here hx rfl (hb hby at_76) rfl zz) ?_
  refine Gl.st (U' := (Tt105.setTop (mkF m 78 #[.val (.int p0), .val (.int p1), .val (.int p2), .val (.int p3), .val (.int p4), .val (.int p5), .val (.int ta), .val vA, .val (.ref rA), .val (.ref at80), .val (.ref at93), .unset, .unset] [(.int (1 : Int32)), (.int p3), (.ref rA), (.int p1), vA, (.ref at93), (.ref at105), (.ref at105)]))) (fun _ zz => XS.iconst Xt105.here hx rfl (hb hby at_77) zz) ?_
  refine Gl.st (U' := (Tt105.setTop (mkF m 79 #[.val (.int p0), .val (.int p1), .val (.int p2), .val (.int p3), .val (.int p4), .val (.int p5), .val (.int ta), .val vA, .val (.ref rA), .val (.ref at80), .val (.ref at93), .unset, .unset] [(.int (p3 &&& (1 : Int32))), (.ref rA), (.int p1), vA, (.ref at93), (.ref at105), (.ref at105)]))) (fun _ zz => XS.iand Xt105.here hx rfl (hb hby at_78) rfl zz) ?_
  refine Gl.join (α := Int32) (P := fun c1 => c1 = 0 ∨ c1 = 1) (f := fun c1 => (Tt105.setTop (mkF m 87 #[.val (.int p0), .val (.int p1), .val (.int p2), .val (.int p3), .val (.int p4), .val (.int p5), .val (.int ta), .val vA, .val (.ref rA), .val (.ref at80), .val (.ref at93), .unset, .unset] [(.int c1), (.ref rA), (.int p1), vA, (.ref at93), (.ref at105), (.ref at105)]))) ?_ ?_
  · intro Jc1
    by_cases q : (p3 &&& (1 : Int32)) = (0 : Int32)
    · refine Gl.st (U' := (Tt105.setTop (mkF m 86 #[.val (.int p0), .val (.int p1), .val (.int p2), .val (.int p3), .val (.int p4), .val (.int p5), .val (.int ta), .val vA, .val (.ref rA), .val (.ref at80), .val (.ref at93), .unset, .unset] [(.ref rA), (.int p1), vA, (.ref at93), (.ref at105), (.ref at105)]))) (fun _ zz => XS.ifYes Xt105.here hx rfl (pc0 := 79) (pc' := 86) rfl (hb hby at_79) rfl ((if0 _ _).trans (teq q).1) (by decide) (by decide) zz) ?_
      refine Gl.st (U' := (Tt105.setTop (mkF m 87 #[.val (.int p0), .val (.int p1), .val (.int p2), .val (.int p3), .val (.int p4), .val (.int p5), .val (.int ta), .val vA, .val (.ref rA), .val (.ref at80), .val (.ref at93), .unset, .unset] [(.int (0 : Int32)), (.ref rA), (.int p1), vA, (.ref at93), (.ref at105), (.ref at105)]))) (fun _ zz => XS.iconst Xt105.here hx rfl (hb hby at_86) zz) ?_
      exact Jc1 0 (Or.inl rfl)
    · refine Gl.st (U' := (Tt105.setTop (mkF m 82 #[.val (.int p0), .val (.int p1), .val (.int p2), .val (.int p3), .val (.int p4), .val (.int p5), .val (.int ta), .val vA, .val (.ref rA), .val (.ref at80), .val (.ref at93), .unset, .unset] [(.ref rA), (.int p1), vA, (.ref at93), (.ref at105), (.ref at105)]))) (fun _ zz => XS.ifNo Xt105.here hx rfl (hb hby at_79) rfl ((if0 _ _).trans (feq q).1) zz) ?_
      refine Gl.st (U' := (Tt105.setTop (mkF m 83 #[.val (.int p0), .val (.int p1), .val (.int p2), .val (.int p3), .val (.int p4), .val (.int p5), .val (.int ta), .val vA, .val (.ref rA), .val (.ref at80), .val (.ref at93), .unset, .unset] [(.int (1 : Int32)), (.ref rA), (.int p1), vA, (.ref at93), (.ref at105), (.ref at105)]))) (fun _ zz => XS.iconst Xt105.here hx rfl (hb hby at_82) zz) ?_
      refine Gl.st (U' := (Tt105.setTop (mkF m 87 #[.val (.int p0), .val (.int p1), .val (.int p2), .val (.int p3), .val (.int p4), .val (.int p5), .val (.int ta), .val vA, .val (.ref rA), .val (.ref at80), .val (.ref at93), .unset, .unset] [(.int (1 : Int32)), (.ref rA), (.int p1), vA, (.ref at93), (.ref at105), (.ref at105)]))) (fun _ zz => XS.goto Xt105.here hx rfl (pc0 := 83) (pc' := 87) rfl (hb hby at_83) (by decide) (by decide) zz) ?_
      exact Jc1 1 (Or.inr rfl)
  intro c1 hc1
  show Gl p e below _ (Tt105.setTop (mkF m 87 #[.val (.int p0), .val (.int p1), .val (.int p2), .val (.int p3), .val (.int p4), .val (.int p5), .val (.int ta), .val vA, .val (.ref rA), .val (.ref at80), .val (.ref at93), .unset, .unset] [(.int c1), (.ref rA), (.int p1), vA, (.ref at93), (.ref at105), (.ref at105)]))
  refine Gl.st (U' := (Tt105.setTop (mkF m 88 #[.val (.int p0), .val (.int p1), .val (.int p2), .val (.int p3), .val (.int p4), .val (.int p5), .val (.int ta), .val vA, .val (.ref rA), .val (.ref at80), .val (.ref at93), .unset, .unset] [(.int p3), (.int c1), (.ref rA), (.int p1), vA, (.ref at93), (.ref at105), (.ref at105)]))) (fun _ zz => XS.iloadN Xt105.here hx rfl (hb hby at_87) rfl zz) ?_
  refine Gl.st (U' := (Tt105.setTop (mkF m 89 #[.val (.int p0), .val (.int p1), .val (.int p2), .val (.int p3), .val (.int p4), .val (.int p5), .val (.int ta), .val vA, .val (.ref rA), .val (.ref at80), .val (.ref at93), .unset, .unset] [(.int (2 : Int32)), (.int p3), (.int c1), (.ref rA), (.int p1), vA, (.ref at93), (.ref at105), (.ref at105)]))) (fun _ zz => XS.iconst Xt105.here hx rfl (hb hby at_88) zz) ?_
  refine Gl.st (U' := (Tt105.setTop (mkF m 90 #[.val (.int p0), .val (.int p1), .val (.int p2), .val (.int p3), .val (.int p4), .val (.int p5), .val (.int ta), .val vA, .val (.ref rA), .val (.ref at80), .val (.ref at93), .unset, .unset] [(.int (p3 &&& (2 : Int32))), (.int c1), (.ref rA), (.int p1), vA, (.ref at93), (.ref at105), (.ref at105)]))) (fun _ zz => XS.iand Xt105.here hx rfl (hb hby at_89) rfl zz) ?_
  refine Gl.join (α := Int32) (P := fun c2 => c2 = 0 ∨ c2 = 1) (f := fun c2 => (Tt105.setTop (mkF m 98 #[.val (.int p0), .val (.int p1), .val (.int p2), .val (.int p3), .val (.int p4), .val (.int p5), .val (.int ta), .val vA, .val (.ref rA), .val (.ref at80), .val (.ref at93), .unset, .unset] [(.int c2), (.int c1), (.ref rA), (.int p1), vA, (.ref at93), (.ref at105), (.ref at105)]))) ?_ ?_
  · intro Jc2
    by_cases q : (p3 &&& (2 : Int32)) = (0 : Int32)
    · refine Gl.st (U' := (Tt105.setTop (mkF m 97 #[.val (.int p0), .val (.int p1), .val (.int p2), .val (.int p3), .val (.int p4), .val (.int p5), .val (.int ta), .val vA, .val (.ref rA), .val (.ref at80), .val (.ref at93), .unset, .unset] [(.int c1), (.ref rA), (.int p1), vA, (.ref at93), (.ref at105), (.ref at105)]))) (fun _ zz => XS.ifYes Xt105.here hx rfl (pc0 := 90) (pc' := 97) rfl (hb hby at_90) rfl ((if0 _ _).trans (teq q).1) (by decide) (by decide) zz) ?_
      refine Gl.st (U' := (Tt105.setTop (mkF m 98 #[.val (.int p0), .val (.int p1), .val (.int p2), .val (.int p3), .val (.int p4), .val (.int p5), .val (.int ta), .val vA, .val (.ref rA), .val (.ref at80), .val (.ref at93), .unset, .unset] [(.int (0 : Int32)), (.int c1), (.ref rA), (.int p1), vA, (.ref at93), (.ref at105), (.ref at105)]))) (fun _ zz => XS.iconst Xt105.here hx rfl (hb hby at_97) zz) ?_
      exact Jc2 0 (Or.inl rfl)
    · refine Gl.st (U' := (Tt105.setTop (mkF m 93 #[.val (.int p0), .val (.int p1), .val (.int p2), .val (.int p3), .val (.int p4), .val (.int p5), .val (.int ta), .val vA, .val (.ref rA), .val (.ref at80), .val (.ref at93), .unset, .unset] [(.int c1), (.ref rA), (.int p1), vA, (.ref at93), (.ref at105), (.ref at105)]))) (fun _ zz => XS.ifNo Xt105.here hx rfl (hb hby at_90) rfl ((if0 _ _).trans (feq q).1) zz) ?_
      refine Gl.st (U' := (Tt105.setTop (mkF m 94 #[.val (.int p0), .val (.int p1), .val (.int p2), .val (.int p3), .val (.int p4), .val (.int p5), .val (.int ta), .val vA, .val (.ref rA), .val (.ref at80), .val (.ref at93), .unset, .unset] [(.int (1 : Int32)), (.int c1), (.ref rA), (.int p1), vA, (.ref at93), (.ref at105), (.ref at105)]))) (fun _ zz => XS.iconst Xt105.here hx rfl (hb hby at_93) zz) ?_
      refine Gl.st (U' := (Tt105.setTop (mkF m 98 #[.val (.int p0), .val (.int p1), .val (.int p2), .val (.int p3), .val (.int p4), .val (.int p5), .val (.int ta), .val vA, .val (.ref rA), .val (.ref at80), .val (.ref at93), .unset, .unset] [(.int (1 : Int32)), (.int c1), (.ref rA), (.int p1), vA, (.ref at93), (.ref at105), (.ref at105)]))) (fun _ zz => XS.goto Xt105.here hx rfl (pc0 := 94) (pc' := 98) rfl (hb hby at_94) (by decide) (by decide) zz) ?_
      exact Jc2 1 (Or.inr rfl)
  intro c2 hc2
  show Gl p e below _ (Tt105.setTop (mkF m 98 #[.val (.int p0), .val (.int p1), .val (.int p2), .val (.int p3), .val (.int p4), .val (.int p5), .val (.int ta), .val vA, .val (.ref rA), .val (.ref at80), .val (.ref at93), .unset, .unset] [(.int c2), (.int c1), (.ref rA), (.int p1), vA, (.ref at93), (.ref at105), (.ref at105)]))
  refine Gl.st (U' := (Tt105.setTop (mkF m 99 #[.val (.int p0), .val (.int p1), .val (.int p2), .val (.int p3), .val (.int p4), .val (.int p5), .val (.int ta), .val vA, .val (.ref rA), .val (.ref at80), .val (.ref at93), .unset, .unset] [(.int p3), (.int c2), (.int c1), (.ref rA), (.int p1), vA, (.ref at93), (.ref at105), (.ref at105)]))) (fun _ zz => XS.iloadN Xt105.here hx rfl (hb hby at_98) rfl zz) ?_
  refine Gl.st (U' := (Tt105.setTop (mkF m 100 #[.val (.int p0), .val (.int p1), .val (.int p2), .val (.int p3), .val (.int p4), .val (.int p5), .val (.int ta), .val vA, .val (.ref rA), .val (.ref at80), .val (.ref at93), .unset, .unset] [(.int (4 : Int32)), (.int p3), (.int c2), (.int c1), (.ref rA), (.int p1), vA, (.ref at93), (.ref at105), (.ref at105)]))) (fun _ zz => XS.iconst Xt105.here hx rfl (hb hby at_99) zz) ?_
  refine Gl.st (U' := (Tt105.setTop (mkF m 101 #[.val (.int p0), .val (.int p1), .val (.int p2), .val (.int p3), .val (.int p4), .val (.int p5), .val (.int ta), .val vA, .val (.ref rA), .val (.ref at80), .val (.ref at93), .unset, .unset] [(.int (p3 &&& (4 : Int32))), (.int c2), (.int c1), (.ref rA), (.int p1), vA, (.ref at93), (.ref at105), (.ref at105)]))) (fun _ zz => XS.iand Xt105.here hx rfl (hb hby at_100) rfl zz) ?_
  refine Gl.join (α := Int32) (P := fun c3 => c3 = 0 ∨ c3 = 1) (f := fun c3 => (Tt105.setTop (mkF m 109 #[.val (.int p0), .val (.int p1), .val (.int p2), .val (.int p3), .val (.int p4), .val (.int p5), .val (.int ta), .val vA, .val (.ref rA), .val (.ref at80), .val (.ref at93), .unset, .unset] [(.int c3), (.int c2), (.int c1), (.ref rA), (.int p1), vA, (.ref at93), (.ref at105), (.ref at105)]))) ?_ ?_
  · intro Jc3
    by_cases q : (p3 &&& (4 : Int32)) = (0 : Int32)
    · refine Gl.st (U' := (Tt105.setTop (mkF m 108 #[.val (.int p0), .val (.int p1), .val (.int p2), .val (.int p3), .val (.int p4), .val (.int p5), .val (.int ta), .val vA, .val (.ref rA), .val (.ref at80), .val (.ref at93), .unset, .unset] [(.int c2), (.int c1), (.ref rA), (.int p1), vA, (.ref at93), (.ref at105), (.ref at105)]))) (fun _ zz => XS.ifYes Xt105.here hx rfl (pc0 := 101) (pc' := 108) rfl (hb hby at_101) rfl ((if0 _ _).trans (teq q).1) (by decide) (by decide) zz) ?_
      refine Gl.st (U' := (Tt105.setTop (mkF m 109 #[.val (.int p0), .val (.int p1), .val (.int p2), .val (.int p3), .val (.int p4), .val (.int p5), .val (.int ta), .val vA, .val (.ref rA), .val (.ref at80), .val (.ref at93), .unset, .unset] [(.int (0 : Int32)), (.int c2), (.int c1), (.ref rA), (.int p1), vA, (.ref at93), (.ref at105), (.ref at105)]))) (fun _ zz => XS.iconst Xt105.here hx rfl (hb hby at_108) zz) ?_
      exact Jc3 0 (Or.inl rfl)
    · refine Gl.st (U' := (Tt105.setTop (mkF m 104 #[.val (.int p0), .val (.int p1), .val (.int p2), .val (.int p3), .val (.int p4), .val (.int p5), .val (.int ta), .val vA, .val (.ref rA), .val (.ref at80), .val (.ref at93), .unset, .unset] [(.int c2), (.int c1), (.ref rA), (.int p1), vA, (.ref at93), (.ref at105), (.ref at105)]))) (fun _ zz => XS.ifNo Xt105.here hx rfl (hb hby at_101) rfl ((if0 _ _).trans (feq q).1) zz) ?_
      refine Gl.st (U' := (Tt105.setTop (mkF m 105 #[.val (.int p0), .val (.int p1), .val (.int p2), .val (.int p3), .val (.int p4), .val (.int p5), .val (.int ta), .val vA, .val (.ref rA), .val (.ref at80), .val (.ref at93), .unset, .unset] [(.int (1 : Int32)), (.int c2), (.int c1), (.ref rA), (.int p1), vA, (.ref at93), (.ref at105), (.ref at105)]))) (fun _ zz => XS.iconst Xt105.here hx rfl (hb hby at_104) zz) ?_
      refine Gl.st (U' := (Tt105.setTop (mkF m 109 #[.val (.int p0), .val (.int p1), .val (.int p2), .val (.int p3), .val (.int p4), .val (.int p5), .val (.int ta), .val vA, .val (.ref rA), .val (.ref at80), .val (.ref at93), .unset, .unset] [(.int (1 : Int32)), (.int c2), (.int c1), (.ref rA), (.int p1), vA, (.ref at93), (.ref at105), (.ref at105)]))) (fun _ zz => XS.goto Xt105.here hx rfl (pc0 := 105) (pc' := 109) rfl (hb hby at_105) (by decide) (by decide) zz) ?_
      exact Jc3 1 (Or.inr rfl)
  intro c3 hc3
  show Gl p e below _ (Tt105.setTop (mkF m 109 #[.val (.int p0), .val (.int p1), .val (.int p2), .val (.int p3), .val (.int p4), .val (.int p5), .val (.int ta), .val vA, .val (.ref rA), .val (.ref at80), .val (.ref at93), .unset, .unset] [(.int c3), (.int c2), (.int c1), (.ref rA), (.int p1), vA, (.ref at93), (.ref at105), (.ref at105)]))
  refine Gl.st (U' := (Tt105.setTop (mkF m 110 #[.val (.int p0), .val (.int p1), .val (.int p2), .val (.int p3), .val (.int p4), .val (.int p5), .val (.int ta), .val vA, .val (.ref rA), .val (.ref at80), .val (.ref at93), .unset, .unset] [(.int p3), (.int c3), (.int c2), (.int c1), (.ref rA), (.int p1), vA, (.ref at93), (.ref at105), (.ref at105)]))) (fun _ zz => XS.iloadN Xt105.here hx rfl (hb hby at_109) rfl zz) ?_
  refine Gl.st (U' := (Tt105.setTop (mkF m 112 #[.val (.int p0), .val (.int p1), .val (.int p2), .val (.int p3), .val (.int p4), .val (.int p5), .val (.int ta), .val vA, .val (.ref rA), .val (.ref at80), .val (.ref at93), .unset, .unset] [(.int (8 : Int32)), (.int p3), (.int c3), (.int c2), (.int c1), (.ref rA), (.int p1), vA, (.ref at93), (.ref at105), (.ref at105)]))) (fun _ zz => XS.bipush Xt105.here hx rfl (hb hby at_110) zz) ?_
  refine Gl.st (U' := (Tt105.setTop (mkF m 113 #[.val (.int p0), .val (.int p1), .val (.int p2), .val (.int p3), .val (.int p4), .val (.int p5), .val (.int ta), .val vA, .val (.ref rA), .val (.ref at80), .val (.ref at93), .unset, .unset] [(.int (p3 &&& (8 : Int32))), (.int c3), (.int c2), (.int c1), (.ref rA), (.int p1), vA, (.ref at93), (.ref at105), (.ref at105)]))) (fun _ zz => XS.iand Xt105.here hx rfl (hb hby at_112) rfl zz) ?_
  refine Gl.join (α := Int32) (P := fun c4 => c4 = 0 ∨ c4 = 1) (f := fun c4 => (Tt105.setTop (mkF m 121 #[.val (.int p0), .val (.int p1), .val (.int p2), .val (.int p3), .val (.int p4), .val (.int p5), .val (.int ta), .val vA, .val (.ref rA), .val (.ref at80), .val (.ref at93), .unset, .unset] [(.int c4), (.int c3), (.int c2), (.int c1), (.ref rA), (.int p1), vA, (.ref at93), (.ref at105), (.ref at105)]))) ?_ ?_
  · intro Jc4
    by_cases q : (p3 &&& (8 : Int32)) = (0 : Int32)
    · refine Gl.st (U' := (Tt105.setTop (mkF m 120 #[.val (.int p0), .val (.int p1), .val (.int p2), .val (.int p3), .val (.int p4), .val (.int p5), .val (.int ta), .val vA, .val (.ref rA), .val (.ref at80), .val (.ref at93), .unset, .unset] [(.int c3), (.int c2), (.int c1), (.ref rA), (.int p1), vA, (.ref at93), (.ref at105), (.ref at105)]))) (fun _ zz => XS.ifYes Xt105.here hx rfl (pc0 := 113) (pc' := 120) rfl (hb hby at_113) rfl ((if0 _ _).trans (teq q).1) (by decide) (by decide) zz) ?_
      refine Gl.st (U' := (Tt105.setTop (mkF m 121 #[.val (.int p0), .val (.int p1), .val (.int p2), .val (.int p3), .val (.int p4), .val (.int p5), .val (.int ta), .val vA, .val (.ref rA), .val (.ref at80), .val (.ref at93), .unset, .unset] [(.int (0 : Int32)), (.int c3), (.int c2), (.int c1), (.ref rA), (.int p1), vA, (.ref at93), (.ref at105), (.ref at105)]))) (fun _ zz => XS.iconst Xt105.here hx rfl (hb hby at_120) zz) ?_
      exact Jc4 0 (Or.inl rfl)
    · refine Gl.st (U' := (Tt105.setTop (mkF m 116 #[.val (.int p0), .val (.int p1), .val (.int p2), .val (.int p3), .val (.int p4), .val (.int p5), .val (.int ta), .val vA, .val (.ref rA), .val (.ref at80), .val (.ref at93), .unset, .unset] [(.int c3), (.int c2), (.int c1), (.ref rA), (.int p1), vA, (.ref at93), (.ref at105), (.ref at105)]))) (fun _ zz => XS.ifNo Xt105.here hx rfl (hb hby at_113) rfl ((if0 _ _).trans (feq q).1) zz) ?_
      refine Gl.st (U' := (Tt105.setTop (mkF m 117 #[.val (.int p0), .val (.int p1), .val (.int p2), .val (.int p3), .val (.int p4), .val (.int p5), .val (.int ta), .val vA, .val (.ref rA), .val (.ref at80), .val (.ref at93), .unset, .unset] [(.int (1 : Int32)), (.int c3), (.int c2), (.int c1), (.ref rA), (.int p1), vA, (.ref at93), (.ref at105), (.ref at105)]))) (fun _ zz => XS.iconst Xt105.here hx rfl (hb hby at_116) zz) ?_
      refine Gl.st (U' := (Tt105.setTop (mkF m 121 #[.val (.int p0), .val (.int p1), .val (.int p2), .val (.int p3), .val (.int p4), .val (.int p5), .val (.int ta), .val vA, .val (.ref rA), .val (.ref at80), .val (.ref at93), .unset, .unset] [(.int (1 : Int32)), (.int c3), (.int c2), (.int c1), (.ref rA), (.int p1), vA, (.ref at93), (.ref at105), (.ref at105)]))) (fun _ zz => XS.goto Xt105.here hx rfl (pc0 := 117) (pc' := 121) rfl (hb hby at_117) (by decide) (by decide) zz) ?_
      exact Jc4 1 (Or.inr rfl)
  intro c4 hc4
  show Gl p e below _ (Tt105.setTop (mkF m 121 #[.val (.int p0), .val (.int p1), .val (.int p2), .val (.int p3), .val (.int p4), .val (.int p5), .val (.int ta), .val vA, .val (.ref rA), .val (.ref at80), .val (.ref at93), .unset, .unset] [(.int c4), (.int c3), (.int c2), (.int c1), (.ref rA), (.int p1), vA, (.ref at93), (.ref at105), (.ref at105)]))
  refine Gl.st (U' := (Tt105.setTop (mkF m 122 #[.val (.int p0), .val (.int p1), .val (.int p2), .val (.int p3), .val (.int p4), .val (.int p5), .val (.int ta), .val vA, .val (.ref rA), .val (.ref at80), .val (.ref at93), .unset, .unset] [(.int p3), (.int c4), (.int c3), (.int c2), (.int c1), (.ref rA), (.int p1), vA, (.ref at93), (.ref at105), (.ref at105)]))) (fun _ zz => XS.iloadN Xt105.here hx rfl (hb hby at_121) rfl zz) ?_
  refine Gl.st (U' := (Tt105.setTop (mkF m 124 #[.val (.int p0), .val (.int p1), .val (.int p2), .val (.int p3), .val (.int p4), .val (.int p5), .val (.int ta), .val vA, .val (.ref rA), .val (.ref at80), .val (.ref at93), .unset, .unset] [(.int (16 : Int32)), (.int p3), (.int c4), (.int c3), (.int c2), (.int c1), (.ref rA), (.int p1), vA, (.ref at93), (.ref at105), (.ref at105)]))) (fun _ zz => XS.bipush Xt105.here hx rfl (hb hby at_122) zz) ?_
  refine Gl.st (U' := (Tt105.setTop (mkF m 125 #[.val (.int p0), .val (.int p1), .val (.int p2), .val (.int p3), .val (.int p4), .val (.int p5), .val (.int ta), .val vA, .val (.ref rA), .val (.ref at80), .val (.ref at93), .unset, .unset] [(.int (p3 &&& (16 : Int32))), (.int c4), (.int c3), (.int c2), (.int c1), (.ref rA), (.int p1), vA, (.ref at93), (.ref at105), (.ref at105)]))) (fun _ zz => XS.iand Xt105.here hx rfl (hb hby at_124) rfl zz) ?_
  refine Gl.join (α := Int32) (P := fun c5 => c5 = 0 ∨ c5 = 1) (f := fun c5 => (Tt105.setTop (mkF m 133 #[.val (.int p0), .val (.int p1), .val (.int p2), .val (.int p3), .val (.int p4), .val (.int p5), .val (.int ta), .val vA, .val (.ref rA), .val (.ref at80), .val (.ref at93), .unset, .unset] [(.int c5), (.int c4), (.int c3), (.int c2), (.int c1), (.ref rA), (.int p1), vA, (.ref at93), (.ref at105), (.ref at105)]))) ?_ ?_
  · intro Jc5
    by_cases q : (p3 &&& (16 : Int32)) = (0 : Int32)
    · refine Gl.st (U' := (Tt105.setTop (mkF m 132 #[.val (.int p0), .val (.int p1), .val (.int p2), .val (.int p3), .val (.int p4), .val (.int p5), .val (.int ta), .val vA, .val (.ref rA), .val (.ref at80), .val (.ref at93), .unset, .unset] [(.int c4), (.int c3), (.int c2), (.int c1), (.ref rA), (.int p1), vA, (.ref at93), (.ref at105), (.ref at105)]))) (fun _ zz => XS.ifYes Xt105.here hx rfl (pc0 := 125) (pc' := 132) rfl (hb hby at_125) rfl ((if0 _ _).trans (teq q).1) (by decide) (by decide) zz) ?_
      refine Gl.st (U' := (Tt105.setTop (mkF m 133 #[.val (.int p0), .val (.int p1), .val (.int p2), .val (.int p3), .val (.int p4), .val (.int p5), .val (.int ta), .val vA, .val (.ref rA), .val (.ref at80), .val (.ref at93), .unset, .unset] [(.int (0 : Int32)), (.int c4), (.int c3), (.int c2), (.int c1), (.ref rA), (.int p1), vA, (.ref at93), (.ref at105), (.ref at105)]))) (fun _ zz => XS.iconst Xt105.here hx rfl (hb hby at_132) zz) ?_
      exact Jc5 0 (Or.inl rfl)
    · refine Gl.st (U' := (Tt105.setTop (mkF m 128 #[.val (.int p0), .val (.int p1), .val (.int p2), .val (.int p3), .val (.int p4), .val (.int p5), .val (.int ta), .val vA, .val (.ref rA), .val (.ref at80), .val (.ref at93), .unset, .unset] [(.int c4), (.int c3), (.int c2), (.int c1), (.ref rA), (.int p1), vA, (.ref at93), (.ref at105), (.ref at105)]))) (fun _ zz => XS.ifNo Xt105.here hx rfl (hb hby at_125) rfl ((if0 _ _).trans (feq q).1) zz) ?_
      refine Gl.st (U' := (Tt105.setTop (mkF m 129 #[.val (.int p0), .val (.int p1), .val (.int p2), .val (.int p3), .val (.int p4), .val (.int p5), .val (.int ta), .val vA, .val (.ref rA), .val (.ref at80), .val (.ref at93), .unset, .unset] [(.int (1 : Int32)), (.int c4), (.int c3), (.int c2), (.int c1), (.ref rA), (.int p1), vA, (.ref at93), (.ref at105), (.ref at105)]))) (fun _ zz => XS.iconst Xt105.here hx rfl (hb hby at_128) zz) ?_
      refine Gl.st (U' := (Tt105.setTop (mkF m 133 #[.val (.int p0), .val (.int p1), .val (.int p2), .val (.int p3), .val (.int p4), .val (.int p5), .val (.int ta), .val vA, .val (.ref rA), .val (.ref at80), .val (.ref at93), .unset, .unset] [(.int (1 : Int32)), (.int c4), (.int c3), (.int c2), (.int c1), (.ref rA), (.int p1), vA, (.ref at93), (.ref at105), (.ref at105)]))) (fun _ zz => XS.goto Xt105.here hx rfl (pc0 := 129) (pc' := 133) rfl (hb hby at_129) (by decide) (by decide) zz) ?_
      exact Jc5 1 (Or.inr rfl)
  intro c5 hc5
  show Gl p e below _ (Tt105.setTop (mkF m 133 #[.val (.int p0), .val (.int p1), .val (.int p2), .val (.int p3), .val (.int p4), .val (.int p5), .val (.int ta), .val vA, .val (.ref rA), .val (.ref at80), .val (.ref at93), .unset, .unset] [(.int c5), (.int c4), (.int c3), (.int c2), (.int c1), (.ref rA), (.int p1), vA, (.ref at93), (.ref at105), (.ref at105)]))
  refine Gl.st (U' := (Tt105.setTop (mkF m 134 #[.val (.int p0), .val (.int p1), .val (.int p2), .val (.int p3), .val (.int p4), .val (.int p5), .val (.int ta), .val vA, .val (.ref rA), .val (.ref at80), .val (.ref at93), .unset, .unset] [.null, (.int c5), (.int c4), (.int c3), (.int c2), (.int c1), (.ref rA), (.int p1), vA, (.ref at93), (.ref at105), (.ref at105)]))) (fun _ zz => XS.aconstNull Xt105.here hx rfl (hb hby at_133) zz) ?_
  refine gCallI Xt105 hx hZ (y := site_134) rfl hown (hw _ (List.mem_of_getElem? (i := 47) rfl)) (hw _ (List.mem_of_getElem? (i := 48) rfl)) (hw _ (List.mem_of_getElem? (i := 46) rfl)) (hw _ (List.mem_of_getElem? (i := 49) rfl)) (by decide) (own_init_con l Z a0 hw ht105 n0 at105 at93 gat107 At105 Kt111 vA hrA p1 rA c1 c2 c3 c4 c5 hc1 hc2 hc3 hc4 hc5) et105 (by decide) (W := 1) (by decide) (by decide) (by decide) (g := (mkF m 134 #[.val (.int p0), .val (.int p1), .val (.int p2), .val (.int p3), .val (.int p4), .val (.int p5), .val (.int ta), .val vA, .val (.ref rA), .val (.ref at80), .val (.ref at93), .unset, .unset] [.null, (.int c5), (.int c4), (.int c3), (.int c2), (.int c1), (.ref rA), (.int p1), vA, (.ref at93), (.ref at105), (.ref at105)])) rfl (by rw [hml]; rfl) (argsL := [(.ref at93), vA, (.int p1), (.ref rA), (.int c1), (.int c2), (.int c3), (.int c4), (.int c5), .null]) (rest := [(.ref at105)]) (own_lenOf own_pd3 rfl) rfl rfl (by show 2 * 0 + _ ≤ _; exact Nat.le_of_eq rfl) (hb hby at_134) ?_
  rintro _ Tt112 Lt112 Xt112 ⟨rfl, Nt112, EV, FV⟩
  show Gl p e below _ (Tt112.setTop (mkF m 137 #[.val (.int p0), .val (.int p1), .val (.int p2), .val (.int p3), .val (.int p4), .val (.int p5), .val (.int ta), .val vA, .val (.ref rA), .val (.ref at80), .val (.ref at93), .unset, .unset] [(.ref at105)]))
  have Nt113 := Fr.app Nt102 Nt112
  refine Gl.st (U' := (Tt112.setTop (mkF m 139 #[.val (.int p0), .val (.int p1), .val (.int p2), .val (.int p3), .val (.int p4), .val (.int p5), .val (.int ta), .val vA, .val (.ref rA), .val (.ref at80), .val (.ref at93), .val (.ref at105), .unset] []))) (fun _ zz => XS.astore Xt112.here hx rfl (hb hby at_137) rfl rfl (l' := #[.val (.int p0), .val (.int p1), .val (.int p2), .val (.int p3), .val (.int p4), .val (.int p5), .val (.int ta), .val vA, .val (.ref rA), .val (.ref at80), .val (.ref at93), .val (.ref at105), .unset]) rfl zz) ?_
  refine Gl.st (U' := (Tt112.setTop (mkF m 141 #[.val (.int p0), .val (.int p1), .val (.int p2), .val (.int p3), .val (.int p4), .val (.int p5), .val (.int ta), .val vA, .val (.ref rA), .val (.ref at80), .val (.ref at93), .val (.ref at105), .unset] [(.int ta)]))) (fun _ zz => XS.iload Xt112.here hx rfl (hb hby at_139) rfl zz) ?_
  refine Gl.st (U' := (Tt112.setTop (mkF m 143 #[.val (.int p0), .val (.int p1), .val (.int p2), .val (.int p3), .val (.int p4), .val (.int p5), .val (.int ta), .val vA, .val (.ref rA), .val (.ref at80), .val (.ref at93), .val (.ref at105), .unset] [(.int (12 : Int32)), (.int ta)]))) (fun _ zz => XS.bipush Xt112.here hx rfl (hb hby at_141) zz) ?_
  refine Gl.join (α := Int32) (P := fun b12 => b12 = own_bi (¬ ta = 12)) (f := fun b12 => (Tt112.setTop (mkF m 151 #[.val (.int p0), .val (.int p1), .val (.int p2), .val (.int p3), .val (.int p4), .val (.int p5), .val (.int ta), .val vA, .val (.ref rA), .val (.ref at80), .val (.ref at93), .val (.ref at105), .unset] [(.int b12)]))) ?_ ?_
  · intro Jb12
    by_cases q : ta = (12 : Int32)
    · refine Gl.st (U' := (Tt112.setTop (mkF m 150 #[.val (.int p0), .val (.int p1), .val (.int p2), .val (.int p3), .val (.int p4), .val (.int p5), .val (.int ta), .val vA, .val (.ref rA), .val (.ref at80), .val (.ref at93), .val (.ref at105), .unset] []))) (fun _ zz => XS.icmpYes Xt112.here hx rfl (pc0 := 143) (pc' := 150) rfl (hb hby at_143) rfl (teq q).1 (by decide) (by decide) zz) ?_
      refine Gl.st (U' := (Tt112.setTop (mkF m 151 #[.val (.int p0), .val (.int p1), .val (.int p2), .val (.int p3), .val (.int p4), .val (.int p5), .val (.int ta), .val vA, .val (.ref rA), .val (.ref at80), .val (.ref at93), .val (.ref at105), .unset] [(.int (0 : Int32))]))) (fun _ zz => XS.iconst Xt112.here hx rfl (hb hby at_150) zz) ?_
      exact Jb12 0 (own_bi_f (fun z => z q)).symm
    · refine Gl.st (U' := (Tt112.setTop (mkF m 146 #[.val (.int p0), .val (.int p1), .val (.int p2), .val (.int p3), .val (.int p4), .val (.int p5), .val (.int ta), .val vA, .val (.ref rA), .val (.ref at80), .val (.ref at93), .val (.ref at105), .unset] []))) (fun _ zz => XS.icmpNo Xt112.here hx rfl (hb hby at_143) rfl (feq q).1 zz) ?_
      refine Gl.st (U' := (Tt112.setTop (mkF m 147 #[.val (.int p0), .val (.int p1), .val (.int p2), .val (.int p3), .val (.int p4), .val (.int p5), .val (.int ta), .val vA, .val (.ref rA), .val (.ref at80), .val (.ref at93), .val (.ref at105), .unset] [(.int (1 : Int32))]))) (fun _ zz => XS.iconst Xt112.here hx rfl (hb hby at_146) zz) ?_
      refine Gl.st (U' := (Tt112.setTop (mkF m 151 #[.val (.int p0), .val (.int p1), .val (.int p2), .val (.int p3), .val (.int p4), .val (.int p5), .val (.int ta), .val vA, .val (.ref rA), .val (.ref at80), .val (.ref at93), .val (.ref at105), .unset] [(.int (1 : Int32))]))) (fun _ zz => XS.goto Xt112.here hx rfl (pc0 := 147) (pc' := 151) rfl (hb hby at_147) (by decide) (by decide) zz) ?_
      exact Jb12 1 (own_bi_t q).symm
  intro b12 hb12
  show Gl p e below _ (Tt112.setTop (mkF m 151 #[.val (.int p0), .val (.int p1), .val (.int p2), .val (.int p3), .val (.int p4), .val (.int p5), .val (.int ta), .val vA, .val (.ref rA), .val (.ref at80), .val (.ref at93), .val (.ref at105), .unset] [(.int b12)]))
  refine Gl.st (U' := (Tt112.setTop (mkF m 153 #[.val (.int p0), .val (.int p1), .val (.int p2), .val (.int p3), .val (.int p4), .val (.int p5), .val (.int ta), .val vA, .val (.ref rA), .val (.ref at80), .val (.ref at93), .val (.ref at105), .val (.int b12)] []))) (fun _ zz => XS.istore Xt112.here hx rfl (hb hby at_151) rfl (l' := #[.val (.int p0), .val (.int p1), .val (.int p2), .val (.int p3), .val (.int p4), .val (.int p5), .val (.int ta), .val vA, .val (.ref rA), .val (.ref at80), .val (.ref at93), .val (.ref at105), .val (.int b12)]) rfl zz) ?_
  refine Gl.st (U' := (Tt112.setTop (mkF m 155 #[.val (.int p0), .val (.int p1), .val (.int p2), .val (.int p3), .val (.int p4), .val (.int p5), .val (.int ta), .val vA, .val (.ref rA), .val (.ref at80), .val (.ref at93), .val (.ref at105), .val (.int b12)] [(.ref at105)]))) (fun _ zz => XS.aload Xt112.here hx rfl (hb hby at_153) rfl rfl zz) ?_
  refine gCallV Xt112 hx hZ (y := (⟨"com/example/rungsight/rungsight/flow/Variable", "isInteger", "()Z"⟩ : MethodName)) (z := (⟨"com/example/rungsight/rungsight/flow/Variable", "isInteger", "()Z"⟩ : MethodName)) hown (hw _ (List.mem_of_getElem? (i := 71) rfl)) (hw _ (List.mem_of_getElem? (i := 72) rfl)) (hw _ (List.mem_of_getElem? (i := 74) rfl)) (own_nf (args := #[]) (mvT hZ (hw _ (List.mem_of_getElem? (i := 74) rfl))) rfl) (hw _ (List.mem_of_getElem? (i := 73) rfl)) (hw _ (List.mem_of_getElem? (i := 46) rfl)) (hw _ (List.mem_of_getElem? (i := 75) rfl)) (by decide) (own_isi_con l Z a0 hw Tt112.heap at105 vA hrA FV) (rfl : Tt112.heap = Tt112.heap) EV (by decide) (W := 0) (by decide) (by decide) (by decide) (g := (mkF m 155 #[.val (.int p0), .val (.int p1), .val (.int p2), .val (.int p3), .val (.int p4), .val (.int p5), .val (.int ta), .val vA, .val (.ref rA), .val (.ref at80), .val (.ref at93), .val (.ref at105), .val (.int b12)] [(.ref at105)])) rfl (by rw [hml]; rfl) (argsL := []) (rest := []) (lenOf own_pd4 rfl) rfl rfl (by show 2 * 0 + _ ≤ _; exact Nat.le_of_eq rfl) (hb hby at_155) ?_
  rintro _ Tt114 Lt114 Xt114 ⟨rfl, rfl, et114⟩
  show Gl p e below _ (Tt114.setTop (mkF m 158 #[.val (.int p0), .val (.int p1), .val (.int p2), .val (.int p3), .val (.int p4), .val (.int p5), .val (.int ta), .val vA, .val (.ref rA), .val (.ref at80), .val (.ref at93), .val (.ref at105), .val (.int b12)] [(.int (own_bi (¬ vA = .null)))]))
  refine Gl.st (U' := (Tt114.setTop (mkF m 160 #[.val (.int p0), .val (.int p1), .val (.int p2), .val (.int p3), .val (.int p4), .val (.int p5), .val (.int ta), .val vA, .val (.ref rA), .val (.ref at80), .val (.ref at93), .val (.ref at105), .val (.int b12)] [(.int b12), (.int (own_bi (¬ vA = .null)))]))) (fun _ zz => XS.iload Xt114.here hx rfl (hb hby at_158) rfl zz) ?_
  have hq : own_bi (¬ vA = .null) = b12 := by
    rw [hb12]
    refine own_bi_eq.mpr ?_
    rw [hvA, own_type_null ta r1.1 r1.2]
  refine Gl.st (U' := (Tt114.setTop (mkF m 163 #[.val (.int p0), .val (.int p1), .val (.int p2), .val (.int p3), .val (.int p4), .val (.int p5), .val (.int ta), .val vA, .val (.ref rA), .val (.ref at80), .val (.ref at93), .val (.ref at105), .val (.int b12)] []))) (fun _ zz => XS.icmpNo Xt114.here hx rfl (hb hby at_160) rfl (teq hq).2 zz) ?_
  refine Gl.st (U' := (Tt114.setTop (mkF m 165 #[.val (.int p0), .val (.int p1), .val (.int p2), .val (.int p3), .val (.int p4), .val (.int p5), .val (.int ta), .val vA, .val (.ref rA), .val (.ref at80), .val (.ref at93), .val (.ref at105), .val (.int b12)] [(.ref at105)]))) (fun _ zz => XS.aload Xt114.here hx rfl (hb hby at_163) rfl rfl zz) ?_
  refine gCallV Xt114 hx hZ (y := (⟨"com/example/rungsight/rungsight/flow/Variable", "type", "()Lcom/example/rungsight/rungsight/types/IntegerType;"⟩ : MethodName)) (z := (⟨"com/example/rungsight/rungsight/flow/Variable", "type", "()Lcom/example/rungsight/rungsight/types/IntegerType;"⟩ : MethodName)) hown (hw _ (List.mem_of_getElem? (i := 76) rfl)) (hw _ (List.mem_of_getElem? (i := 77) rfl)) (hw _ (List.mem_of_getElem? (i := 79) rfl)) (own_nf (args := #[]) (mvT hZ (hw _ (List.mem_of_getElem? (i := 74) rfl))) rfl) (hw _ (List.mem_of_getElem? (i := 78) rfl)) (hw _ (List.mem_of_getElem? (i := 46) rfl)) (hw _ (List.mem_of_getElem? (i := 80) rfl)) (by decide) (own_gty_con l Z a0 hw Tt112.heap at105 vA hrA FV) et114 EV (by decide) (W := 0) (by decide) (by decide) (by decide) (g := (mkF m 165 #[.val (.int p0), .val (.int p1), .val (.int p2), .val (.int p3), .val (.int p4), .val (.int p5), .val (.int ta), .val vA, .val (.ref rA), .val (.ref at80), .val (.ref at93), .val (.ref at105), .val (.int b12)] [(.ref at105)])) rfl (by rw [hml]; rfl) (argsL := []) (rest := []) (lenOf own_pd5 rfl) rfl rfl (by show 2 * 0 + _ ≤ _; exact Nat.le_of_eq rfl) (hb hby at_165) ?_
  rintro _ Tt115 Lt115 Xt115 ⟨rfl, rfl, et115⟩
  show Gl p e below _ (Tt115.setTop (mkF m 168 #[.val (.int p0), .val (.int p1), .val (.int p2), .val (.int p3), .val (.int p4), .val (.int p5), .val (.int ta), .val vA, .val (.ref rA), .val (.ref at80), .val (.ref at93), .val (.ref at105), .val (.int b12)] [vA]))
  refine Gl.st (U' := (Tt115.setTop (mkF m 170 #[.val (.int p0), .val (.int p1), .val (.int p2), .val (.int p3), .val (.int p4), .val (.int p5), .val (.int ta), .val vA, .val (.ref rA), .val (.ref at80), .val (.ref at93), .val (.ref at105), .val (.int b12)] [vA, vA]))) (fun _ zz => XS.aload Xt115.here hx rfl (hb hby at_168) rfl hrA zz) ?_
  refine Gl.st (U' := (Tt115.setTop (mkF m 173 #[.val (.int p0), .val (.int p1), .val (.int p2), .val (.int p3), .val (.int p4), .val (.int p5), .val (.int ta), .val vA, .val (.ref rA), .val (.ref at80), .val (.ref at93), .val (.ref at105), .val (.int b12)] []))) (fun _ zz => Jvm.RoadKit.acmp (g := (mkF m 170 #[.val (.int p0), .val (.int p1), .val (.int p2), .val (.int p3), .val (.int p4), .val (.int p5), .val (.int ta), .val vA, .val (.ref rA), .val (.ref at80), .val (.ref at93), .val (.ref at105), .val (.int b12)] [vA, vA])) Xt115 hx rfl hrA hrA (pc0 := 170) (pc' := 173) (same := true) rfl (hb hby at_170) rfl (decide_eq_true rfl) (by decide) (by decide) zz) ?_
  refine Gl.st (U' := (Tt115.setTop (mkF m 174 #[.val (.int p0), .val (.int p1), .val (.int p2), .val (.int p3), .val (.int p4), .val (.int p5), .val (.int ta), .val vA, .val (.ref rA), .val (.ref at80), .val (.ref at93), .val (.ref at105), .val (.int b12)] [(.int (1 : Int32))]))) (fun _ zz => XS.iconst Xt115.here hx rfl (hb hby at_173) zz) ?_
  refine Gl.st (U' := (Tt115.setTop (mkF m 178 #[.val (.int p0), .val (.int p1), .val (.int p2), .val (.int p3), .val (.int p4), .val (.int p5), .val (.int ta), .val vA, .val (.ref rA), .val (.ref at80), .val (.ref at93), .val (.ref at105), .val (.int b12)] [(.int (1 : Int32))]))) (fun _ zz => XS.goto Xt115.here hx rfl (pc0 := 174) (pc' := 178) rfl (hb hby at_174) (by decide) (by decide) zz) ?_
  exact Gl.retZ Xt115 hx hret hlk (hb hby at_178) (Or.inr rfl) ⟨rfl, by simpa using Nt113⟩ (by decide) (by decide)
set_option maxRecDepth 65536 in
set_option maxHeartbeats 40000000 in
theorem comes_1 {Post : Tables → Env → Array Value → State → Outcome → State → Prop} (hpost : ∀ tb e args s v u, (limb_1_1.after args s (.returned v) u = true ∧ limb_1_2.after args s (.returned v) u = true ∧ True) → FrameEnd s (.returned v) u (Jvm.fieldLocs frame_1_writes args s ++ Jvm.arrayLocs frame_1_arrays args s ++ Jvm.staticLocs frame_1_statics s) 16 128 → Post tb e args s (.returned v) u) :
    ArmFor flags0 classFile x code maxLocals ret World_1 tables_1 room_1 Calls_1 rest_1 Pre_1 Post := by
  intro l hfl _ _ p e ha hc hk s m args below hf hA hF happ hP
  obtain ⟨hcalls, hrest, hpre⟩ := hP
  obtain ⟨-, -, -, hnamed, -, -, -, hat⟩ := (Spec.applies_iff hf).mp happ
  obtain ⟨hg, hn⟩ := and_e (Cond.before_iff.mp (show (Jvm.Cond.and given_1 narrow_1).before args s = true from hpre))
  obtain ⟨hcount, hg⟩ := and_e hg
  obtain ⟨hg0, hg⟩ := and_e hg
  obtain ⟨hg1, hg⟩ := and_e hg
  obtain ⟨hg2, hg⟩ := and_e hg
  obtain ⟨hg3, hg⟩ := and_e hg
  obtain ⟨hg4, hg⟩ := and_e hg
  have hg5 := hg
  obtain ⟨w0, w1, w2, w3, w4, w5, rfl⟩ : ∃ w0 w1 w2 w3 w4 w5 : Value, args = #[w0, w1, w2, w3, w4, w5] := by
    have hs : args.size = 6 := by simpa [Cond.value, given_1] using hcount
    obtain ⟨L⟩ := args
    match L, hs with
    | [w0, w1, w2, w3, w4, w5], _ => exact ⟨w0, w1, w2, w3, w4, w5, rfl⟩
  have hw := fun d (hd : d ∈ tables_1) => atoms_spec (ws := Jvm.Cond.code x code maxLocals ret :: tables_1) hat d (List.mem_cons_of_mem _ hd)
  obtain ⟨hsets, hown0⟩ := atoms_of _ (rest_1_c_eq ▸ (show rest_1_c.before _ s = true from hrest))
  have hfit : Fit s := fun {y c} hc i hi => by
    obtain ⟨ha, rfl⟩ := Array.getElem?_eq_some_iff.mp hc
    have q := List.all_eq_true.mp ((Array.all_eq_true_iff_forall_mem.mp hF) _ (Array.getElem_mem ha)) i (List.mem_range.mpr hi)
    simpa [Array.getElem?_eq_getElem hi] using q
  obtain ⟨i0, ev0⟩ := is_v hg0
  obtain rfl : w0 = (.int i0) := Option.some.inj ev0
  obtain ⟨i1, ev1⟩ := is_v hg1
  obtain rfl : w1 = (.int i1) := Option.some.inj ev1
  obtain ⟨i2, ev2⟩ := is_v hg2
  obtain rfl : w2 = (.int i2) := Option.some.inj ev2
  obtain ⟨i3, ev3⟩ := is_v hg3
  obtain rfl : w3 = (.int i3) := Option.some.inj ev3
  obtain ⟨i4, ev4⟩ := is_v hg4
  obtain rfl : w4 = (.int i4) := Option.some.inj ev4
  obtain ⟨i5, ev5⟩ := is_v hg5
  obtain rfl : w5 = (.int i5) := Option.some.inj ev5
  obtain ⟨hn0, hn⟩ := and_e hn
  obtain ⟨hn1, hn⟩ := and_e hn
  obtain ⟨hn2, hn⟩ := and_e hn
  obtain ⟨hn3, hn⟩ := and_e hn
  obtain ⟨hn4, hn⟩ := and_e hn
  obtain ⟨hn5, hn⟩ := and_e hn
  obtain ⟨hn6, hn⟩ := and_e hn
  obtain ⟨hn7, hn⟩ := and_e hn
  obtain ⟨hn8, hn⟩ := and_e hn
  obtain ⟨hn9, hn⟩ := and_e hn
  obtain ⟨hn10, hn⟩ := and_e hn
  obtain ⟨hn11, hn⟩ := and_e hn
  obtain ⟨hn12, hn⟩ := and_e hn
  obtain ⟨hn13, hn⟩ := and_e hn
  obtain ⟨hn14, hn⟩ := and_e hn
  obtain ⟨hn15, hn⟩ := and_e hn
  have hn16 := hn
  obtain ⟨vSINT, exSINT⟩ := exa_v hn0
  have SSINT := Sta.start exSINT (Or.inr ⟨(hw _ (List.mem_of_getElem? (i := 6) rfl)), (hw _ (List.mem_of_getElem? (i := 7) rfl))⟩)
  obtain ⟨vINSTANCE, exINSTANCE⟩ := exa_v hn1
  have SINSTANCE := Sta.start exINSTANCE (Or.inr ⟨(hw _ (List.mem_of_getElem? (i := 12) rfl)), (hw _ (List.mem_of_getElem? (i := 13) rfl))⟩)
  obtain ⟨vUSINT, exUSINT⟩ := exa_v hn2
  have SUSINT := Sta.start exUSINT (Or.inr ⟨(hw _ (List.mem_of_getElem? (i := 6) rfl)), (hw _ (List.mem_of_getElem? (i := 82) rfl))⟩)
  obtain ⟨vDECLARED, exDECLARED⟩ := exa_v hn3
  have SDECLARED := Sta.start exDECLARED (Or.inr ⟨(hw _ (List.mem_of_getElem? (i := 12) rfl)), (hw _ (List.mem_of_getElem? (i := 84) rfl))⟩)
  obtain ⟨vDINT, exDINT⟩ := exa_v hn4
  have SDINT := Sta.start exDINT (Or.inr ⟨(hw _ (List.mem_of_getElem? (i := 6) rfl)), (hw _ (List.mem_of_getElem? (i := 86) rfl))⟩)
  obtain ⟨vRESULT, exRESULT⟩ := exa_v hn5
  have SRESULT := Sta.start exRESULT (Or.inr ⟨(hw _ (List.mem_of_getElem? (i := 12) rfl)), (hw _ (List.mem_of_getElem? (i := 88) rfl))⟩)
  obtain ⟨vBYTE, exBYTE⟩ := exa_v hn6
  have SBYTE := Sta.start exBYTE (Or.inr ⟨(hw _ (List.mem_of_getElem? (i := 6) rfl)), (hw _ (List.mem_of_getElem? (i := 90) rfl))⟩)
  obtain ⟨vUDINT, exUDINT⟩ := exa_v hn7
  have SUDINT := Sta.start exUDINT (Or.inr ⟨(hw _ (List.mem_of_getElem? (i := 6) rfl)), (hw _ (List.mem_of_getElem? (i := 92) rfl))⟩)
  obtain ⟨vCURRENT_RESULT, exCURRENT_RESULT⟩ := exa_v hn8
  have SCURRENT_RESULT := Sta.start exCURRENT_RESULT (Or.inr ⟨(hw _ (List.mem_of_getElem? (i := 12) rfl)), (hw _ (List.mem_of_getElem? (i := 94) rfl))⟩)
  obtain ⟨vLWORD, exLWORD⟩ := exa_v hn9
  have SLWORD := Sta.start exLWORD (Or.inr ⟨(hw _ (List.mem_of_getElem? (i := 6) rfl)), (hw _ (List.mem_of_getElem? (i := 96) rfl))⟩)
  obtain ⟨vDWORD, exDWORD⟩ := exa_v hn10
  have SDWORD := Sta.start exDWORD (Or.inr ⟨(hw _ (List.mem_of_getElem? (i := 6) rfl)), (hw _ (List.mem_of_getElem? (i := 98) rfl))⟩)
  obtain ⟨vINT, exINT⟩ := exa_v hn11
  have SINT := Sta.start exINT (Or.inr ⟨(hw _ (List.mem_of_getElem? (i := 6) rfl)), (hw _ (List.mem_of_getElem? (i := 100) rfl))⟩)
  obtain ⟨vLINT, exLINT⟩ := exa_v hn12
  have SLINT := Sta.start exLINT (Or.inr ⟨(hw _ (List.mem_of_getElem? (i := 6) rfl)), (hw _ (List.mem_of_getElem? (i := 102) rfl))⟩)
  obtain ⟨vGLOBAL, exGLOBAL⟩ := exa_v hn13
  have SGLOBAL := Sta.start exGLOBAL (Or.inr ⟨(hw _ (List.mem_of_getElem? (i := 12) rfl)), (hw _ (List.mem_of_getElem? (i := 104) rfl))⟩)
  obtain ⟨vWORD, exWORD⟩ := exa_v hn14
  have SWORD := Sta.start exWORD (Or.inr ⟨(hw _ (List.mem_of_getElem? (i := 6) rfl)), (hw _ (List.mem_of_getElem? (i := 106) rfl))⟩)
  obtain ⟨vULINT, exULINT⟩ := exa_v hn15
  have SULINT := Sta.start exULINT (Or.inr ⟨(hw _ (List.mem_of_getElem? (i := 6) rfl)), (hw _ (List.mem_of_getElem? (i := 108) rfl))⟩)
  obtain ⟨vUINT, exUINT⟩ := exa_v hn16
  have SUINT := Sta.start exUINT (Or.inr ⟨(hw _ (List.mem_of_getElem? (i := 6) rfl)), (hw _ (List.mem_of_getElem? (i := 110) rfl))⟩)
  have nz := not_v (Cond.before_iff.mp (hsets _ (List.mem_of_getElem? (i := 2) rfl)))
  obtain ⟨G1, evG⟩ := is_v (Cond.before_iff.mp (hsets _ (List.mem_of_getElem? (i := 1) rfl)))
  have SC := Sta.start evG (Or.inl (hsets _ (List.mem_of_getElem? (i := 0) rfl)))
  have PC : ¬ (G1 = (0 : Int32)) := gotF (Cond.eq_ints evG (Term.int_eval (0))) nz
  obtain ⟨n, o, h1, h2, h3, _, L, rfl, ⟨rfl, N⟩, hq⟩ := own_law l s _ hw s.heap s.heap.size (Old.start s) vSINT vINT vDINT vLINT vUSINT vUINT vUDINT vULINT vBYTE vWORD vDWORD vLWORD vDECLARED vRESULT vINSTANCE vGLOBAL vCURRENT_RESULT ⟨SSINT, SINT, SDINT, SLINT, SUSINT, SUINT, SUDINT, SULINT, SBYTE, SWORD, SDWORD, SLWORD⟩ ⟨SDECLARED, SRESULT, SINSTANCE, SGLOBAL, SCURRENT_RESULT⟩ G1 SC PC i0 i1 i2 i3 i4 i5 p e ha hc hk s m _ below hf ((Spec.applies_iff_loose hf).mp happ).1 ⟨rfl, State.Warmed39.refl s, rfl⟩ trivial
  refine ⟨n, _, h1, h2, h3, hpost _ _ _ _ _ _ ⟨Cond.after_iff.mpr rfl, Cond.after_iff.mpr (eq_i res_at (Term.int_eval (1)) rfl), trivial⟩ ⟨hq.1, hq.2.1, (hq.2.2.sift fun y hy => Or.inr (N y hy)).mono (by decide) (by decide)⟩⟩
theorem main_1_1 : Claimed_1_1 := comes_1 fun _ _ _ _ _ _ h hF => ⟨h.1, hF⟩
theorem main_1_2 : Claimed_1_2 := comes_1 fun _ _ _ _ _ _ h hF => ⟨h.2.1, hF⟩
end Jvm.Pilot.@@N@@
namespace Jvm.Pilot.@@N@@
open Jvm Jvm.ClassFile Sem Op Lib Jvm.Free Jvm.Stand Jvm.Pilot.@@N@@.Jvm.D
/-! MADE BY PROGRAM (witnessworld.py) out of the Statement's table words and the real class files: 23 classes; the members and pool entries that the words name. The judged class is class 1, her method 3. -/
namespace start1
open Jvm.ClassFile
def tkD : String := match (tables_1[51]? : Option Jvm.Cond) with
  | some (Jvm.Cond.fieldLink _ _ _ _ d) => d
  | _ => ""
def tkT : FieldType := Jvm.RoadKit.own_ty tkD
def u (s : String) : CpInfo := .utf8 (stringToUtf16 s)
/-- a pool by its gaps: so many unusable entries, then the entry; so many at the end -/
def gap : Nat → List CpInfo → List CpInfo
  | 0, r => r
  | n + 1, r => .unusable :: gap n r
def poolList (es : List (Nat × CpInfo)) (last : Nat) : List CpInfo := es.foldr (fun e r => gap e.1 (e.2 :: r)) (gap last [])
def pool (es : List (Nat × CpInfo)) (last : Nat) : Array CpInfo := ⟨poolList es last⟩
def fileOf (pool : Array CpInfo) (this : Nat) (attrs : Array Attribute := #[]) (ms : Array MethodInfo := #[]) (fl : Nat := 33) (sup : Nat := 0) (ifs : Array Nat := #[]) (fds : Array FieldInfo := #[]) : ClassFile where
  minorVersion := 0
  majorVersion := 65
  constantPool := pool
  accessFlags := fl
  thisClass := this
  superClass := sup
  interfaces := ifs
  fields := fds
  methods := ms
  attributes := attrs
def plain (name : String) (sup : Option ClassId) : Class where
  name := name
  kind := .ordinary
  loader := none
  accessFlags := 33
  super := sup
  interfaces := #[]
  cf := none
  fields := #[]
  methods := #[]
  instanceTypes := #[]
  staticTypes := #[]
  resolved := #[]
  callSites := []
  init := .initialized
  statics := none
  mirror := none

def pool0 : Array CpInfo := pool [(5, u "<init>"), (0, u "()V"), (1, .class_ 10), (1, u "java/lang/Object")] 113

def k0c0 : Code := { maxStack := 0, maxLocals := 1, code := object_method_1_code, exceptionTable := #[], attributes := #[] }
def k0m0 : Method := { name := "<init>", desc := "()V", sig := { parameters := [], returnType := none }, accessFlags := 1, code := some k0c0 }
/-- java/lang/Object -/
def k0 : Class := { plain "java/lang/Object" none with
  accessFlags := 33
  interfaces := #[]
  cf := some (fileOf pool0 8 #[] #[{ accessFlags := 1, nameIndex := 5, descriptorIndex := 6, attributes := #[] }] 33 0 #[] #[])
  fields := #[]
  methods := #[k0m0]
  instanceTypes := #[]
  staticTypes := #[]
  resolved := Array.replicate 124 none
  statics := none }

def pool1 : Array CpInfo := pool [(2, .class_ 4), (1, u "java/lang/Object"), (0, u "<init>"), (0, u "()V"), (0, .fieldref 8 9), (0, .class_ 10), (0, .nameAndType 11 12), (0, u "com/example/rungsight/rungsight/types/IntegerType"), (0, u "SINT"), (0, u "Lcom/example/rungsight/rungsight/types/IntegerType;"), (0, .fieldref 8 14), (0, .nameAndType 15 12), (0, u "INT"), (0, .fieldref 8 17), (0, .nameAndType 18 12), (0, u "DINT"), (0, .fieldref 8 20), (0, .nameAndType 21 12), (0, u "LINT"), (0, .fieldref 8 23), (0, .nameAndType 24 12), (0, u "USINT"), (0, .fieldref 8 26), (0, .nameAndType 27 12), (0, u "UINT"), (0, .fieldref 8 29), (0, .nameAndType 30 12), (0, u "UDINT"), (0, .fieldref 8 32), (0, .nameAndType 33 12), (0, u "ULINT"), (0, .fieldref 8 35), (0, .nameAndType 36 12), (0, u "BYTE"), (0, .fieldref 8 38), (0, .nameAndType 39 12), (0, u "WORD"), (0, .fieldref 8 41), (0, .nameAndType 42 12), (0, u "DWORD"), (0, .fieldref 8 44), (0, .nameAndType 45 12), (0, u "LWORD"), (0, .fieldref 47 48), (0, .class_ 49), (0, .nameAndType 50 51), (0, u "com/example/rungsight/rungsight/flow/Variable$Origin"), (0, u "DECLARED"), (0, u "Lcom/example/rungsight/rungsight/flow/Variable$Origin;"), (0, .fieldref 47 53), (0, .nameAndType 54 51), (0, u "RESULT"), (0, .fieldref 47 56), (0, .nameAndType 57 51), (0, u "INSTANCE"), (0, .fieldref 47 59), (0, .nameAndType 60 51), (0, u "GLOBAL"), (0, .fieldref 47 62), (0, .nameAndType 63 51), (0, u "CURRENT_RESULT"), (0, .integer 2147483647), (0, .methodref 66 67), (0, .class_ 68), (0, .nameAndType 69 70), (0, u "com/example/rungsight/rungsight/flow/VariableIsIntegerPinLaw"), (0, u "typeOf"), (0, u "(I)Lcom/example/rungsight/rungsight/types/IntegerType;"), (0, .methodref 66 72), (0, .nameAndType 73 74), (0, u "originOf"), (0, u "(I)Lcom/example/rungsight/rungsight/flow/Variable$Origin;"), (0, .class_ 76), (0, u "java/lang/String"), (0, .methodref 75 78), (0, .nameAndType 5 79), (0, u "([C)V"), (0, .class_ 81), (0, u "com/example/rungsight/rungsight/flow/Variable"), (0, .methodref 80 83), (0, .nameAndType 5 84), (0, u site_134.desc), (0, .methodref 80 86), (0, .nameAndType 87 88), (0, u "isInteger"), (0, u "()Z"), (0, .methodref 80 90), (0, .nameAndType 91 92), (0, u "type"), (0, u "()Lcom/example/rungsight/rungsight/types/IntegerType;"), (3, u "law"), (0, u "(IIIIII)Z")] 6

def k1m0 : Method := { name := "<init>", desc := "()V", sig := { parameters := [], returnType := none }, accessFlags := 2, code := none }
def k1c1 : Code := { maxStack := 2, maxLocals := 1, code := method_2_code, exceptionTable := #[], attributes := #[] }
def k1m1 : Method := { name := "typeOf", desc := "(I)Lcom/example/rungsight/rungsight/types/IntegerType;", sig := { parameters := [.int], returnType := some (.object "com/example/rungsight/rungsight/types/IntegerType") }, accessFlags := 10, code := some k1c1 }
def k1c2 : Code := { maxStack := 2, maxLocals := 1, code := method_3_code, exceptionTable := #[], attributes := #[] }
def k1m2 : Method := { name := "originOf", desc := "(I)Lcom/example/rungsight/rungsight/flow/Variable$Origin;", sig := { parameters := [.int], returnType := some (.object "com/example/rungsight/rungsight/flow/Variable$Origin") }, accessFlags := 10, code := some k1c2 }
def k1c3 : Code := { maxStack := 12, maxLocals := 13, code := code, exceptionTable := #[], attributes := #[] }
def k1m3 : Method := { name := "law", desc := "(IIIIII)Z", sig := { parameters := [.int, .int, .int, .int, .int, .int], returnType := some .boolean }, accessFlags := 9, code := some k1c3 }
/-- com/example/rungsight/rungsight/flow/VariableIsIntegerPinLaw -/
def k1 : Class := { plain "com/example/rungsight/rungsight/flow/VariableIsIntegerPinLaw" (some 0) with
  accessFlags := 49
  interfaces := #[]
  cf := some (fileOf pool1 66 #[] #[{ accessFlags := 2, nameIndex := 5, descriptorIndex := 6, attributes := #[] }, { accessFlags := 10, nameIndex := 69, descriptorIndex := 70, attributes := #[] }, { accessFlags := 10, nameIndex := 73, descriptorIndex := 74, attributes := #[] }, { accessFlags := 9, nameIndex := 96, descriptorIndex := 97, attributes := #[] }] 49 2 #[] #[])
  fields := #[]
  methods := #[k1m0, k1m1, k1m2, k1m3]
  instanceTypes := #[]
  staticTypes := #[]
  resolved := Array.replicate 104 none
  statics := none }

def pool2 : Array CpInfo := pool [(1, .class_ 2), (0, u "java/lang/constant/Constable"), (0, .class_ 4), (0, u "java/lang/Object")] 6

/-- java/lang/constant/Constable -/
def k2 : Class := { plain "java/lang/constant/Constable" (some 0) with
  accessFlags := 1537
  interfaces := #[]
  cf := some (fileOf pool2 1 #[] #[] 1537 3 #[] #[])
  fields := #[]
  methods := #[]
  instanceTypes := #[]
  staticTypes := #[]
  resolved := Array.replicate 11 none
  statics := none }

def pool3 : Array CpInfo := pool [(1, .class_ 2), (0, u "java/lang/Comparable"), (0, .class_ 4), (0, u "java/lang/Object")] 7

/-- java/lang/Comparable -/
def k3 : Class := { plain "java/lang/Comparable" (some 0) with
  accessFlags := 1537
  interfaces := #[]
  cf := some (fileOf pool3 1 #[] #[] 1537 3 #[] #[])
  fields := #[]
  methods := #[]
  instanceTypes := #[]
  staticTypes := #[]
  resolved := Array.replicate 12 none
  statics := none }

def pool4 : Array CpInfo := pool [(1, .class_ 2), (0, u "java/io/Serializable"), (0, .class_ 4), (0, u "java/lang/Object")] 2

/-- java/io/Serializable -/
def k4 : Class := { plain "java/io/Serializable" (some 0) with
  accessFlags := 1537
  interfaces := #[]
  cf := some (fileOf pool4 1 #[] #[] 1537 3 #[] #[])
  fields := #[]
  methods := #[]
  instanceTypes := #[]
  staticTypes := #[]
  resolved := Array.replicate 7 none
  statics := none }

def pool5 : Array CpInfo := pool [(2, .class_ 4), (1, u "java/lang/Enum"), (0, u "name"), (0, u "Ljava/lang/String;"), (2, u "ordinal"), (0, u "I"), (1, .class_ 14), (1, u "java/lang/Object"), (4, u "hash"), (86, .class_ 108), (1, u "java/lang/Enum$EnumDesc"), (2, .class_ 112), (0, u "java/lang/constant/Constable"), (0, .class_ 114), (0, u "java/lang/Comparable"), (0, .class_ 116), (0, u "java/io/Serializable")] 87

/-- java/lang/Enum -/
def k5 : Class := { plain "java/lang/Enum" (some 0) with
  accessFlags := 1057
  interfaces := #[2, 3, 4]
  cf := some (fileOf pool5 2 #[.nestMembers #[106]] #[] 1057 12 #[111, 113, 115] #[{ accessFlags := 18, nameIndex := 5, descriptorIndex := 6, attributes := #[] }, { accessFlags := 18, nameIndex := 9, descriptorIndex := 10, attributes := #[] }, { accessFlags := 2, nameIndex := 19, descriptorIndex := 10, attributes := #[] }])
  fields := #[{ name := "name", type := (.object "java/lang/String"), accessFlags := 18, slot := 0, constantValue := 0 }, { name := "ordinal", type := .int, accessFlags := 18, slot := 1, constantValue := 0 }, { name := "hash", type := .int, accessFlags := 2, slot := 2, constantValue := 0 }]
  methods := #[]
  instanceTypes := #[(.object "java/lang/String"), .int, .int]
  staticTypes := #[]
  resolved := Array.replicate 204 none
  statics := none }

def pool6 : Array CpInfo := pool [(1, .class_ 2), (0, u "com/example/rungsight/rungsight/types/IntegerType"), (2, u "SINT"), (0, u "Lcom/example/rungsight/rungsight/types/IntegerType;"), (2, u "INT"), (2, u "DINT"), (2, u "LINT"), (2, u "USINT"), (2, u "UINT"), (2, u "UDINT"), (2, u "ULINT"), (2, u "BYTE"), (2, u "WORD"), (2, u "DWORD"), (2, u "LWORD"), (2, u "$VALUES"), (0, u "[Lcom/example/rungsight/rungsight/types/IntegerType;"), (6, .class_ 52), (1, u "java/lang/Enum"), (11, u "Ljava/math/BigInteger;"), (10, u "min"), (6, u "max"), (5, u "BY_NAME"), (0, u "Ljava/util/Map;")] 85

/-- com/example/rungsight/rungsight/types/IntegerType -/
def k6 : Class := { plain "com/example/rungsight/rungsight/types/IntegerType" (some 5) with
  accessFlags := 16433
  interfaces := #[]
  cf := some (fileOf pool6 1 #[] #[] 16433 50 #[] #[{ accessFlags := 16409, nameIndex := 5, descriptorIndex := 6, attributes := #[] }, { accessFlags := 16409, nameIndex := 9, descriptorIndex := 6, attributes := #[] }, { accessFlags := 16409, nameIndex := 12, descriptorIndex := 6, attributes := #[] }, { accessFlags := 16409, nameIndex := 15, descriptorIndex := 6, attributes := #[] }, { accessFlags := 16409, nameIndex := 18, descriptorIndex := 6, attributes := #[] }, { accessFlags := 16409, nameIndex := 21, descriptorIndex := 6, attributes := #[] }, { accessFlags := 16409, nameIndex := 24, descriptorIndex := 6, attributes := #[] }, { accessFlags := 16409, nameIndex := 27, descriptorIndex := 6, attributes := #[] }, { accessFlags := 16409, nameIndex := 30, descriptorIndex := 6, attributes := #[] }, { accessFlags := 16409, nameIndex := 33, descriptorIndex := 6, attributes := #[] }, { accessFlags := 16409, nameIndex := 36, descriptorIndex := 6, attributes := #[] }, { accessFlags := 16409, nameIndex := 39, descriptorIndex := 6, attributes := #[] }, { accessFlags := 26, nameIndex := 88, descriptorIndex := 89, attributes := #[] }, { accessFlags := 18, nameIndex := 75, descriptorIndex := 64, attributes := #[] }, { accessFlags := 18, nameIndex := 82, descriptorIndex := 64, attributes := #[] }, { accessFlags := 4122, nameIndex := 42, descriptorIndex := 43, attributes := #[] }])
  fields := #[{ name := "SINT", type := (.object "com/example/rungsight/rungsight/types/IntegerType"), accessFlags := 16409, slot := 0, constantValue := 0 }, { name := "INT", type := (.object "com/example/rungsight/rungsight/types/IntegerType"), accessFlags := 16409, slot := 1, constantValue := 0 }, { name := "DINT", type := (.object "com/example/rungsight/rungsight/types/IntegerType"), accessFlags := 16409, slot := 2, constantValue := 0 }, { name := "LINT", type := (.object "com/example/rungsight/rungsight/types/IntegerType"), accessFlags := 16409, slot := 3, constantValue := 0 }, { name := "USINT", type := (.object "com/example/rungsight/rungsight/types/IntegerType"), accessFlags := 16409, slot := 4, constantValue := 0 }, { name := "UINT", type := (.object "com/example/rungsight/rungsight/types/IntegerType"), accessFlags := 16409, slot := 5, constantValue := 0 }, { name := "UDINT", type := (.object "com/example/rungsight/rungsight/types/IntegerType"), accessFlags := 16409, slot := 6, constantValue := 0 }, { name := "ULINT", type := (.object "com/example/rungsight/rungsight/types/IntegerType"), accessFlags := 16409, slot := 7, constantValue := 0 }, { name := "BYTE", type := (.object "com/example/rungsight/rungsight/types/IntegerType"), accessFlags := 16409, slot := 8, constantValue := 0 }, { name := "WORD", type := (.object "com/example/rungsight/rungsight/types/IntegerType"), accessFlags := 16409, slot := 9, constantValue := 0 }, { name := "DWORD", type := (.object "com/example/rungsight/rungsight/types/IntegerType"), accessFlags := 16409, slot := 10, constantValue := 0 }, { name := "LWORD", type := (.object "com/example/rungsight/rungsight/types/IntegerType"), accessFlags := 16409, slot := 11, constantValue := 0 }, { name := "BY_NAME", type := (.object "java/util/Map"), accessFlags := 26, slot := 12, constantValue := 0 }, { name := "min", type := (.object "java/math/BigInteger"), accessFlags := 18, slot := 3, constantValue := 0 }, { name := "max", type := (.object "java/math/BigInteger"), accessFlags := 18, slot := 4, constantValue := 0 }, { name := "$VALUES", type := (.array (.object "com/example/rungsight/rungsight/types/IntegerType")), accessFlags := 4122, slot := 13, constantValue := 0 }]
  methods := #[]
  instanceTypes := #[(.object "java/lang/String"), .int, .int, (.object "java/math/BigInteger"), (.object "java/math/BigInteger")]
  staticTypes := #[(.object "com/example/rungsight/rungsight/types/IntegerType"), (.object "com/example/rungsight/rungsight/types/IntegerType"), (.object "com/example/rungsight/rungsight/types/IntegerType"), (.object "com/example/rungsight/rungsight/types/IntegerType"), (.object "com/example/rungsight/rungsight/types/IntegerType"), (.object "com/example/rungsight/rungsight/types/IntegerType"), (.object "com/example/rungsight/rungsight/types/IntegerType"), (.object "com/example/rungsight/rungsight/types/IntegerType"), (.object "com/example/rungsight/rungsight/types/IntegerType"), (.object "com/example/rungsight/rungsight/types/IntegerType"), (.object "com/example/rungsight/rungsight/types/IntegerType"), (.object "com/example/rungsight/rungsight/types/IntegerType"), (.object "java/util/Map"), (.array (.object "com/example/rungsight/rungsight/types/IntegerType"))]
  resolved := Array.replicate 175 none
  statics := some 0 }

def pool7 : Array CpInfo := pool [(1, .class_ 2), (0, u "com/example/rungsight/rungsight/flow/Variable$Origin"), (2, u "DECLARED"), (0, u "Lcom/example/rungsight/rungsight/flow/Variable$Origin;"), (2, u "RESULT"), (2, u "INSTANCE"), (2, u "GLOBAL"), (2, u "CURRENT_RESULT"), (2, u "$VALUES"), (0, u "[Lcom/example/rungsight/rungsight/flow/Variable$Origin;"), (6, .class_ 31), (1, u "java/lang/Enum"), (28, .class_ 61), (0, u "com/example/rungsight/rungsight/flow/Variable")] 2

/-- com/example/rungsight/rungsight/flow/Variable$Origin -/
def k7 : Class := { plain "com/example/rungsight/rungsight/flow/Variable$Origin" (some 5) with
  accessFlags := 16433
  interfaces := #[]
  cf := some (fileOf pool7 1 #[.nestHost 60] #[] 16433 29 #[] #[{ accessFlags := 16409, nameIndex := 5, descriptorIndex := 6, attributes := #[] }, { accessFlags := 16409, nameIndex := 9, descriptorIndex := 6, attributes := #[] }, { accessFlags := 16409, nameIndex := 12, descriptorIndex := 6, attributes := #[] }, { accessFlags := 16409, nameIndex := 15, descriptorIndex := 6, attributes := #[] }, { accessFlags := 16409, nameIndex := 18, descriptorIndex := 6, attributes := #[] }, { accessFlags := 4122, nameIndex := 21, descriptorIndex := 22, attributes := #[] }])
  fields := #[{ name := "DECLARED", type := (.object "com/example/rungsight/rungsight/flow/Variable$Origin"), accessFlags := 16409, slot := 0, constantValue := 0 }, { name := "RESULT", type := (.object "com/example/rungsight/rungsight/flow/Variable$Origin"), accessFlags := 16409, slot := 1, constantValue := 0 }, { name := "INSTANCE", type := (.object "com/example/rungsight/rungsight/flow/Variable$Origin"), accessFlags := 16409, slot := 2, constantValue := 0 }, { name := "GLOBAL", type := (.object "com/example/rungsight/rungsight/flow/Variable$Origin"), accessFlags := 16409, slot := 3, constantValue := 0 }, { name := "CURRENT_RESULT", type := (.object "com/example/rungsight/rungsight/flow/Variable$Origin"), accessFlags := 16409, slot := 4, constantValue := 0 }, { name := "$VALUES", type := (.array (.object "com/example/rungsight/rungsight/flow/Variable$Origin")), accessFlags := 4122, slot := 5, constantValue := 0 }]
  methods := #[]
  instanceTypes := #[(.object "java/lang/String"), .int, .int]
  staticTypes := #[(.object "com/example/rungsight/rungsight/flow/Variable$Origin"), (.object "com/example/rungsight/rungsight/flow/Variable$Origin"), (.object "com/example/rungsight/rungsight/flow/Variable$Origin"), (.object "com/example/rungsight/rungsight/flow/Variable$Origin"), (.object "com/example/rungsight/rungsight/flow/Variable$Origin"), (.array (.object "com/example/rungsight/rungsight/flow/Variable$Origin"))]
  resolved := Array.replicate 64 none
  statics := some 1 }

def pool8 : Array CpInfo := pool [(2, .class_ 4), (1, u "java/lang/CharSequence"), (42, .class_ 48), (0, u "java/lang/CharSequence$1CodePointIterator"), (10, .class_ 60), (0, u "java/lang/CharSequence$1CharIterator"), (5, .class_ 67), (0, u "java/lang/Object")] 63

/-- java/lang/CharSequence -/
def k8 : Class := { plain "java/lang/CharSequence" (some 0) with
  accessFlags := 1537
  interfaces := #[]
  cf := some (fileOf pool8 2 #[.nestMembers #[47, 59]] #[] 1537 66 #[] #[])
  fields := #[]
  methods := #[]
  instanceTypes := #[]
  staticTypes := #[]
  resolved := Array.replicate 131 none
  statics := none }

def pool9 : Array CpInfo := pool [(1, .class_ 2), (0, u "java/lang/constant/ConstantDesc"), (0, .class_ 4), (0, u "java/lang/Object")] 32

/-- java/lang/constant/ConstantDesc -/
def k9 : Class := { plain "java/lang/constant/ConstantDesc" (some 0) with
  accessFlags := 1537
  interfaces := #[]
  cf := some (fileOf pool9 1 #[] #[] 1537 3 #[] #[])
  fields := #[]
  methods := #[]
  instanceTypes := #[]
  staticTypes := #[]
  resolved := Array.replicate 37 none
  statics := none }

def pool10 : Array CpInfo := pool [(1, .methodref 2 3), (0, .class_ 4), (0, .nameAndType 5 6), (0, u "java/lang/Object"), (0, u "<init>"), (0, u "()V"), (2, .fieldref 10 11), (0, .class_ 12), (0, .nameAndType 13 14), (0, u "java/lang/String"), (0, u "value"), (0, u "[B"), (0, .fieldref 10 16), (0, .nameAndType 17 18), (0, u "coder"), (0, u "B"), (2, u "hash"), (0, u "I"), (2, u "hashIsZero"), (0, u "Z"), (0, .methodref 10 28), (0, .nameAndType 5 29), (0, u "([CIILjava/lang/Void;)V"), (8, .fieldref 10 39), (0, .nameAndType 40 26), (0, u "COMPACT_STRINGS"), (1, .class_ 44), (1, u "java/lang/StringUTF16"), (0, u "compress"), (1, .methodref 42 48), (0, .nameAndType 49 50), (0, u "coderFromArrayLen"), (0, u "([BI)B"), (126, .methodref 42 178), (0, .nameAndType 45 179), (0, u "([CII)[B"), (395, .class_ 576), (0, u "java/lang/CharSequence"), (22, u "CASE_INSENSITIVE_ORDER"), (0, u "Ljava/util/Comparator;"), (409, u "([C)V"), (90, u "serialPersistentFields"), (0, u "[Ljava/io/ObjectStreamField;"), (0, .class_ 1104), (0, u "java/lang/String$CaseInsensitiveComparator"), (1, .class_ 1107), (0, u "java/io/Serializable"), (0, .class_ 1109), (0, u "java/lang/Comparable"), (0, .class_ 1111), (0, u "java/lang/constant/Constable"), (0, .class_ 1113), (0, u "java/lang/constant/ConstantDesc"), (2, u "serialVersionUID"), (0, u "J"), (3, u "REPL"), (0, u "C"), (2, u "LATIN1"), (1, u "UTF16")] 323

def k10m0 : Method := { name := "<init>", desc := "()V", sig := { parameters := [], returnType := none }, accessFlags := 1, code := none }
def k10c1 : Code := { maxStack := 5, maxLocals := 2, code := jdk_42_method_3_code, exceptionTable := #[], attributes := #[] }
def k10m1 : Method := { name := "<init>", desc := "([C)V", sig := { parameters := [(.array .char)], returnType := none }, accessFlags := 1, code := some k10c1 }
def k10c2 : Code := { maxStack := 4, maxLocals := 6, code := jdk_42_method_149_code, exceptionTable := #[], attributes := #[] }
def k10m2 : Method := { name := "<init>", desc := "([CIILjava/lang/Void;)V", sig := { parameters := [(.array .char), .int, .int, (.object "java/lang/Void")], returnType := none }, accessFlags := 2, code := some k10c2 }
/-- java/lang/String -/
def k10 : Class := { plain "java/lang/String" (some 0) with
  accessFlags := 49
  interfaces := #[4, 3, 8, 2, 9]
  cf := some (fileOf pool10 10 #[.nestMembers #[1103]] #[{ accessFlags := 1, nameIndex := 5, descriptorIndex := 6, attributes := #[] }, { accessFlags := 1, nameIndex := 5, descriptorIndex := 1010, attributes := #[] }, { accessFlags := 2, nameIndex := 5, descriptorIndex := 29, attributes := #[] }] 49 2 #[1106, 1108, 575, 1110, 1112] #[{ accessFlags := 18, nameIndex := 13, descriptorIndex := 14, attributes := #[] }, { accessFlags := 18, nameIndex := 17, descriptorIndex := 18, attributes := #[] }, { accessFlags := 2, nameIndex := 21, descriptorIndex := 22, attributes := #[] }, { accessFlags := 2, nameIndex := 25, descriptorIndex := 26, attributes := #[] }, { accessFlags := 26, nameIndex := 1116, descriptorIndex := 1117, attributes := #[] }, { accessFlags := 24, nameIndex := 40, descriptorIndex := 26, attributes := #[] }, { accessFlags := 26, nameIndex := 1101, descriptorIndex := 1102, attributes := #[] }, { accessFlags := 26, nameIndex := 1121, descriptorIndex := 1122, attributes := #[] }, { accessFlags := 25, nameIndex := 599, descriptorIndex := 600, attributes := #[] }, { accessFlags := 24, nameIndex := 1125, descriptorIndex := 18, attributes := #[] }, { accessFlags := 24, nameIndex := 1127, descriptorIndex := 18, attributes := #[] }])
  fields := #[{ name := "value", type := (.array .byte), accessFlags := 18, slot := 0, constantValue := 0 }, { name := "coder", type := .byte, accessFlags := 18, slot := 1, constantValue := 0 }, { name := "hash", type := .int, accessFlags := 2, slot := 2, constantValue := 0 }, { name := "hashIsZero", type := .boolean, accessFlags := 2, slot := 3, constantValue := 0 }, { name := "serialVersionUID", type := .long, accessFlags := 26, slot := 0, constantValue := 0 }, { name := "COMPACT_STRINGS", type := .boolean, accessFlags := 24, slot := 1, constantValue := 0 }, { name := "serialPersistentFields", type := (.array (.object "java/io/ObjectStreamField")), accessFlags := 26, slot := 2, constantValue := 0 }, { name := "REPL", type := .char, accessFlags := 26, slot := 3, constantValue := 0 }, { name := "CASE_INSENSITIVE_ORDER", type := (.object "java/util/Comparator"), accessFlags := 25, slot := 4, constantValue := 0 }, { name := "LATIN1", type := .byte, accessFlags := 24, slot := 5, constantValue := 0 }, { name := "UTF16", type := .byte, accessFlags := 24, slot := 6, constantValue := 0 }]
  methods := #[k10m0, k10m1, k10m2]
  instanceTypes := #[(.array .byte), .byte, .int, .boolean]
  staticTypes := #[.long, .boolean, (.array (.object "java/io/ObjectStreamField")), .char, (.object "java/util/Comparator"), .byte, .byte]
  resolved := Array.replicate 1451 none
  statics := some 2 }

def pool11 : Array CpInfo := pool [(6, .class_ 8), (1, u "java/lang/Object"), (0, u "<init>"), (0, u "()V"), (1, .class_ 14), (1, u "java/lang/StringUTF16"), (31, u "$assertionsDisabled"), (0, u "Z"), (13, u "HI_BYTE_SHIFT"), (0, u "I"), (2, u "LO_BYTE_SHIFT"), (49, .methodref 12 116), (0, .nameAndType 117 118), (0, u "compress"), (0, u "([CI[BII)I"), (3, u "([CII)[B"), (138, u "coderFromArrayLen"), (0, u "([BI)B"), (106, .class_ 371), (1, u "java/lang/StringUTF16$LinesSpliterator"), (58, u "MAX_LENGTH"), (196, .class_ 628), (0, u "java/lang/StringUTF16$CodePointsSpliterator"), (0, .class_ 630), (0, u "java/lang/StringUTF16$CharsSpliterator")] 4

def k11m0 : Method := { name := "<init>", desc := "()V", sig := { parameters := [], returnType := none }, accessFlags := 0, code := none }
def k11c1 : Code := { maxStack := 2, maxLocals := 2, code := jdk_52_method_15_code, exceptionTable := #[], attributes := #[] }
def k11m1 : Method := { name := "coderFromArrayLen", desc := "([BI)B", sig := { parameters := [(.array .byte), .int], returnType := some .byte }, accessFlags := 8, code := some k11c1 }
def k11c2 : Code := { maxStack := 5, maxLocals := 6, code := jdk_52_method_16_code, exceptionTable := #[], attributes := #[] }
def k11m2 : Method := { name := "compress", desc := "([CII)[B", sig := { parameters := [(.array .char), .int, .int], returnType := some (.array .byte) }, accessFlags := 9, code := some k11c2 }
def k11c3 : Code := { maxStack := 3, maxLocals := 7, code := jdk_52_method_21_code, exceptionTable := #[], attributes := #[] }
def k11m3 : Method := { name := "compress", desc := "([CI[BII)I", sig := { parameters := [(.array .char), .int, (.array .byte), .int, .int], returnType := some .int }, accessFlags := 9, code := some k11c3 }
/-- java/lang/StringUTF16 -/
def k11 : Class := { plain "java/lang/StringUTF16" (some 0) with
  accessFlags := 48
  interfaces := #[]
  cf := some (fileOf pool11 12 #[.nestMembers #[627, 629, 369]] #[{ accessFlags := 0, nameIndex := 9, descriptorIndex := 10, attributes := #[] }, { accessFlags := 8, nameIndex := 261, descriptorIndex := 262, attributes := #[] }, { accessFlags := 9, nameIndex := 117, descriptorIndex := 122, attributes := #[] }, { accessFlags := 9, nameIndex := 117, descriptorIndex := 118, attributes := #[] }] 48 6 #[] #[{ accessFlags := 26, nameIndex := 61, descriptorIndex := 62, attributes := #[] }, { accessFlags := 26, nameIndex := 65, descriptorIndex := 62, attributes := #[] }, { accessFlags := 24, nameIndex := 430, descriptorIndex := 62, attributes := #[] }, { accessFlags := 4120, nameIndex := 46, descriptorIndex := 47, attributes := #[] }])
  fields := #[{ name := "HI_BYTE_SHIFT", type := .int, accessFlags := 26, slot := 0, constantValue := 0 }, { name := "LO_BYTE_SHIFT", type := .int, accessFlags := 26, slot := 1, constantValue := 0 }, { name := "MAX_LENGTH", type := .int, accessFlags := 24, slot := 2, constantValue := 0 }, { name := "$assertionsDisabled", type := .boolean, accessFlags := 4120, slot := 3, constantValue := 0 }]
  methods := #[k11m0, k11m1, k11m2, k11m3]
  instanceTypes := #[]
  staticTypes := #[.int, .int, .int, .boolean]
  resolved := Array.replicate 635 none
  statics := none }

def pool12 : Array CpInfo := pool [(1, .methodref 2 3), (0, .class_ 4), (0, .nameAndType 5 6), (0, u "java/lang/Object"), (0, u "<init>"), (0, u "()V"), (0, .fieldref 8 9), (0, .class_ 10), (0, .nameAndType 11 12), (0, u "com/example/rungsight/rungsight/flow/Variable"), (0, u "declared"), (0, u tkD), (0, .fieldref 8 14), (0, .nameAndType 15 16), (0, u "name"), (0, u "Ljava/lang/String;"), (0, .fieldref 8 18), (0, .nameAndType 19 20), (0, u "type"), (0, u "Lcom/example/rungsight/rungsight/types/IntegerType;"), (0, .fieldref 8 22), (0, .nameAndType 23 24), (0, u "index"), (0, u "I"), (0, .fieldref 8 26), (0, .nameAndType 27 28), (0, u "origin"), (0, u "Lcom/example/rungsight/rungsight/flow/Variable$Origin;"), (0, .fieldref 8 30), (0, .nameAndType 31 32), (0, u "shared"), (0, u "Z"), (0, .fieldref 8 34), (0, .nameAndType 35 32), (0, u "reference"), (0, .fieldref 8 37), (0, .nameAndType 38 32), (0, u "ofInstance"), (0, .fieldref 8 40), (0, .nameAndType 41 32), (0, u "temporary"), (0, .fieldref 8 43), (0, .nameAndType 44 32), (0, u "declaresInitialValue"), (2, u "initialValue"), (0, u "Lcom/example/rungsight/rungsight/flow/Term;"), (2, u "addressTaken"), (0, u site_134.desc), (3, u "()Lcom/example/rungsight/rungsight/types/IntegerType;"), (0, u "isInteger"), (0, u "()Z"), (19, .class_ 79), (0, u "com/example/rungsight/rungsight/flow/Variable$Origin")] 2

def k12c0 : Code := { maxStack := 2, maxLocals := 11, code := prog_38_method_1_code, exceptionTable := #[], attributes := #[] }
def k12m0 : Method := { name := "<init>", desc := site_134.desc, sig := { parameters := [(.object "java/lang/String"), (.object "com/example/rungsight/rungsight/types/IntegerType"), .int, (.object "com/example/rungsight/rungsight/flow/Variable$Origin"), .boolean, .boolean, .boolean, .boolean, .boolean, tkT], returnType := none }, accessFlags := 0, code := some k12c0 }
def k12c1 : Code := { maxStack := 1, maxLocals := 1, code := prog_38_method_3_code, exceptionTable := #[], attributes := #[] }
def k12m1 : Method := { name := "type", desc := "()Lcom/example/rungsight/rungsight/types/IntegerType;", sig := { parameters := [], returnType := some (.object "com/example/rungsight/rungsight/types/IntegerType") }, accessFlags := 1, code := some k12c1 }
def k12c2 : Code := { maxStack := 1, maxLocals := 1, code := prog_38_method_4_code, exceptionTable := #[], attributes := #[] }
def k12m2 : Method := { name := "isInteger", desc := "()Z", sig := { parameters := [], returnType := some .boolean }, accessFlags := 1, code := some k12c2 }
/-- com/example/rungsight/rungsight/flow/Variable -/
def k12 : Class := { plain "com/example/rungsight/rungsight/flow/Variable" (some 0) with
  accessFlags := 49
  interfaces := #[]
  cf := some (fileOf pool12 8 #[.nestMembers #[78]] #[{ accessFlags := 0, nameIndex := 5, descriptorIndex := 52, attributes := #[] }, { accessFlags := 1, nameIndex := 19, descriptorIndex := 56, attributes := #[] }, { accessFlags := 1, nameIndex := 57, descriptorIndex := 58, attributes := #[] }] 49 2 #[] #[{ accessFlags := 18, nameIndex := 15, descriptorIndex := 16, attributes := #[] }, { accessFlags := 18, nameIndex := 19, descriptorIndex := 20, attributes := #[] }, { accessFlags := 18, nameIndex := 23, descriptorIndex := 24, attributes := #[] }, { accessFlags := 18, nameIndex := 27, descriptorIndex := 28, attributes := #[] }, { accessFlags := 18, nameIndex := 35, descriptorIndex := 32, attributes := #[] }, { accessFlags := 18, nameIndex := 38, descriptorIndex := 32, attributes := #[] }, { accessFlags := 18, nameIndex := 41, descriptorIndex := 32, attributes := #[] }, { accessFlags := 18, nameIndex := 44, descriptorIndex := 32, attributes := #[] }, { accessFlags := 18, nameIndex := 11, descriptorIndex := 12, attributes := #[] }, { accessFlags := 2, nameIndex := 31, descriptorIndex := 32, attributes := #[] }, { accessFlags := 2, nameIndex := 51, descriptorIndex := 32, attributes := #[] }, { accessFlags := 2, nameIndex := 47, descriptorIndex := 48, attributes := #[] }])
  fields := #[{ name := "name", type := (.object "java/lang/String"), accessFlags := 18, slot := 0, constantValue := 0 }, { name := "type", type := (.object "com/example/rungsight/rungsight/types/IntegerType"), accessFlags := 18, slot := 1, constantValue := 0 }, { name := "index", type := .int, accessFlags := 18, slot := 2, constantValue := 0 }, { name := "origin", type := (.object "com/example/rungsight/rungsight/flow/Variable$Origin"), accessFlags := 18, slot := 3, constantValue := 0 }, { name := "reference", type := .boolean, accessFlags := 18, slot := 4, constantValue := 0 }, { name := "ofInstance", type := .boolean, accessFlags := 18, slot := 5, constantValue := 0 }, { name := "temporary", type := .boolean, accessFlags := 18, slot := 6, constantValue := 0 }, { name := "declaresInitialValue", type := .boolean, accessFlags := 18, slot := 7, constantValue := 0 }, { name := "declared", type := tkT, accessFlags := 18, slot := 8, constantValue := 0 }, { name := "shared", type := .boolean, accessFlags := 2, slot := 9, constantValue := 0 }, { name := "addressTaken", type := .boolean, accessFlags := 2, slot := 10, constantValue := 0 }, { name := "initialValue", type := (.object "com/example/rungsight/rungsight/flow/Term"), accessFlags := 2, slot := 11, constantValue := 0 }]
  methods := #[k12m0, k12m1, k12m2]
  instanceTypes := #[(.object "java/lang/String"), (.object "com/example/rungsight/rungsight/types/IntegerType"), .int, (.object "com/example/rungsight/rungsight/flow/Variable$Origin"), .boolean, .boolean, .boolean, .boolean, tkT, .boolean, .boolean, (.object "com/example/rungsight/rungsight/flow/Term")]
  staticTypes := #[]
  resolved := Array.replicate 82 none
  statics := none }

def pool13 : Array CpInfo := pool [(4, .class_ 6), (1, u "java/lang/Object"), (0, u "<init>"), (0, u "()V"), (5, .class_ 16), (1, u "java/lang/StringLatin1"), (104, u "$assertionsDisabled"), (0, u "Z"), (98, .class_ 223), (1, u "java/lang/StringLatin1$LinesSpliterator"), (166, .class_ 391), (0, u "java/lang/StringLatin1$CharsSpliterator")] 3

def k13m0 : Method := { name := "<init>", desc := "()V", sig := { parameters := [], returnType := none }, accessFlags := 0, code := none }
/-- java/lang/StringLatin1 -/
def k13 : Class := { plain "java/lang/StringLatin1" (some 0) with
  accessFlags := 48
  interfaces := #[]
  cf := some (fileOf pool13 14 #[.nestMembers #[390, 221]] #[{ accessFlags := 0, nameIndex := 7, descriptorIndex := 8, attributes := #[] }] 48 4 #[] #[{ accessFlags := 4120, nameIndex := 121, descriptorIndex := 122, attributes := #[] }])
  fields := #[{ name := "$assertionsDisabled", type := .boolean, accessFlags := 4120, slot := 0, constantValue := 0 }]
  methods := #[k13m0]
  instanceTypes := #[]
  staticTypes := #[.boolean]
  resolved := Array.replicate 395 none
  statics := none }

def pool14 : Array CpInfo := pool [(2, .class_ 4), (1, u "java/lang/Object"), (0, u "<init>"), (0, u "()V"), (17, .class_ 26), (1, u "jdk/internal/util/Preconditions"), (28, .class_ 56), (0, u "jdk/internal/util/Preconditions$4"), (57, .class_ 115), (0, u "jdk/internal/util/Preconditions$1"), (7, u "SIOOBE_FORMATTER"), (0, u "Ljava/util/function/BiFunction;"), (0, .class_ 126), (0, u "jdk/internal/util/Preconditions$2"), (3, u "AIOOBE_FORMATTER"), (0, .class_ 132), (0, u "jdk/internal/util/Preconditions$3"), (3, u "IOOBE_FORMATTER")] 57

def k14m0 : Method := { name := "<init>", desc := "()V", sig := { parameters := [], returnType := none }, accessFlags := 1, code := none }
/-- jdk/internal/util/Preconditions -/
def k14 : Class := { plain "jdk/internal/util/Preconditions" (some 0) with
  accessFlags := 33
  interfaces := #[]
  cf := some (fileOf pool14 24 #[.nestMembers #[55, 131, 125, 114]] #[{ accessFlags := 1, nameIndex := 5, descriptorIndex := 6, attributes := #[] }] 33 2 #[] #[{ accessFlags := 25, nameIndex := 123, descriptorIndex := 124, attributes := #[] }, { accessFlags := 25, nameIndex := 130, descriptorIndex := 124, attributes := #[] }, { accessFlags := 25, nameIndex := 136, descriptorIndex := 124, attributes := #[] }])
  fields := #[{ name := "SIOOBE_FORMATTER", type := (.object "java/util/function/BiFunction"), accessFlags := 25, slot := 0, constantValue := 0 }, { name := "AIOOBE_FORMATTER", type := (.object "java/util/function/BiFunction"), accessFlags := 25, slot := 1, constantValue := 0 }, { name := "IOOBE_FORMATTER", type := (.object "java/util/function/BiFunction"), accessFlags := 25, slot := 2, constantValue := 0 }]
  methods := #[k14m0]
  instanceTypes := #[]
  staticTypes := #[(.object "java/util/function/BiFunction"), (.object "java/util/function/BiFunction"), (.object "java/util/function/BiFunction")]
  resolved := Array.replicate 194 none
  statics := some 3 }

def pool15 : Array CpInfo := pool [(9, u "<init>"), (6, .class_ 18), (1, u "java/lang/Object"), (0, u "()V"), (1, .class_ 23), (1, u "jdk/internal/util/ArraysSupport"), (0, u "LOG2_ARRAY_LONG_INDEX_SCALE"), (0, u "I"), (2, u "U"), (0, u "Ljdk/internal/misc/Unsafe;"), (8, u "BIG_ENDIAN"), (0, u "Z"), (8, u "LOG2_BYTE_BIT_SIZE"), (4, u "LOG2_ARRAY_INT_INDEX_SCALE"), (54, u "JLA"), (0, u "Ljdk/internal/access/JavaLangAccess;"), (11, u "LOG2_ARRAY_BOOLEAN_INDEX_SCALE"), (9, u "LOG2_ARRAY_BYTE_INDEX_SCALE"), (5, u "LOG2_ARRAY_CHAR_INDEX_SCALE"), (5, u "LOG2_ARRAY_SHORT_INDEX_SCALE"), (18, u "LOG2_ARRAY_FLOAT_INDEX_SCALE"), (24, u "LOG2_ARRAY_DOUBLE_INDEX_SCALE"), (89, u "T_BOOLEAN"), (2, u "T_CHAR"), (1, u "T_FLOAT"), (1, u "T_DOUBLE"), (1, u "T_BYTE"), (1, u "T_SHORT"), (1, u "T_INT"), (1, u "T_LONG"), (1, u "SOFT_MAX_ARRAY_LENGTH")] 83

def k15m0 : Method := { name := "<init>", desc := "()V", sig := { parameters := [], returnType := none }, accessFlags := 2, code := none }
/-- jdk/internal/util/ArraysSupport -/
def k15 : Class := { plain "jdk/internal/util/ArraysSupport" (some 0) with
  accessFlags := 33
  interfaces := #[]
  cf := some (fileOf pool15 21 #[] #[{ accessFlags := 2, nameIndex := 9, descriptorIndex := 19, attributes := #[] }] 33 16 #[] #[{ accessFlags := 24, nameIndex := 28, descriptorIndex := 29, attributes := #[] }, { accessFlags := 26, nameIndex := 38, descriptorIndex := 39, attributes := #[] }, { accessFlags := 25, nameIndex := 121, descriptorIndex := 25, attributes := #[] }, { accessFlags := 25, nameIndex := 131, descriptorIndex := 25, attributes := #[] }, { accessFlags := 25, nameIndex := 137, descriptorIndex := 25, attributes := #[] }, { accessFlags := 25, nameIndex := 143, descriptorIndex := 25, attributes := #[] }, { accessFlags := 25, nameIndex := 53, descriptorIndex := 25, attributes := #[] }, { accessFlags := 25, nameIndex := 24, descriptorIndex := 25, attributes := #[] }, { accessFlags := 25, nameIndex := 162, descriptorIndex := 25, attributes := #[] }, { accessFlags := 25, nameIndex := 187, descriptorIndex := 25, attributes := #[] }, { accessFlags := 26, nameIndex := 48, descriptorIndex := 25, attributes := #[] }, { accessFlags := 25, nameIndex := 277, descriptorIndex := 25, attributes := #[] }, { accessFlags := 25, nameIndex := 280, descriptorIndex := 25, attributes := #[] }, { accessFlags := 25, nameIndex := 282, descriptorIndex := 25, attributes := #[] }, { accessFlags := 25, nameIndex := 284, descriptorIndex := 25, attributes := #[] }, { accessFlags := 25, nameIndex := 286, descriptorIndex := 25, attributes := #[] }, { accessFlags := 25, nameIndex := 288, descriptorIndex := 25, attributes := #[] }, { accessFlags := 25, nameIndex := 290, descriptorIndex := 25, attributes := #[] }, { accessFlags := 25, nameIndex := 292, descriptorIndex := 25, attributes := #[] }, { accessFlags := 26, nameIndex := 108, descriptorIndex := 109, attributes := #[] }, { accessFlags := 25, nameIndex := 294, descriptorIndex := 25, attributes := #[] }])
  fields := #[{ name := "U", type := (.object "jdk/internal/misc/Unsafe"), accessFlags := 24, slot := 0, constantValue := 0 }, { name := "BIG_ENDIAN", type := .boolean, accessFlags := 26, slot := 1, constantValue := 0 }, { name := "LOG2_ARRAY_BOOLEAN_INDEX_SCALE", type := .int, accessFlags := 25, slot := 2, constantValue := 0 }, { name := "LOG2_ARRAY_BYTE_INDEX_SCALE", type := .int, accessFlags := 25, slot := 3, constantValue := 0 }, { name := "LOG2_ARRAY_CHAR_INDEX_SCALE", type := .int, accessFlags := 25, slot := 4, constantValue := 0 }, { name := "LOG2_ARRAY_SHORT_INDEX_SCALE", type := .int, accessFlags := 25, slot := 5, constantValue := 0 }, { name := "LOG2_ARRAY_INT_INDEX_SCALE", type := .int, accessFlags := 25, slot := 6, constantValue := 0 }, { name := "LOG2_ARRAY_LONG_INDEX_SCALE", type := .int, accessFlags := 25, slot := 7, constantValue := 0 }, { name := "LOG2_ARRAY_FLOAT_INDEX_SCALE", type := .int, accessFlags := 25, slot := 8, constantValue := 0 }, { name := "LOG2_ARRAY_DOUBLE_INDEX_SCALE", type := .int, accessFlags := 25, slot := 9, constantValue := 0 }, { name := "LOG2_BYTE_BIT_SIZE", type := .int, accessFlags := 26, slot := 10, constantValue := 0 }, { name := "T_BOOLEAN", type := .int, accessFlags := 25, slot := 11, constantValue := 0 }, { name := "T_CHAR", type := .int, accessFlags := 25, slot := 12, constantValue := 0 }, { name := "T_FLOAT", type := .int, accessFlags := 25, slot := 13, constantValue := 0 }, { name := "T_DOUBLE", type := .int, accessFlags := 25, slot := 14, constantValue := 0 }, { name := "T_BYTE", type := .int, accessFlags := 25, slot := 15, constantValue := 0 }, { name := "T_SHORT", type := .int, accessFlags := 25, slot := 16, constantValue := 0 }, { name := "T_INT", type := .int, accessFlags := 25, slot := 17, constantValue := 0 }, { name := "T_LONG", type := .int, accessFlags := 25, slot := 18, constantValue := 0 }, { name := "JLA", type := (.object "jdk/internal/access/JavaLangAccess"), accessFlags := 26, slot := 19, constantValue := 0 }, { name := "SOFT_MAX_ARRAY_LENGTH", type := .int, accessFlags := 25, slot := 20, constantValue := 0 }]
  methods := #[k15m0]
  instanceTypes := #[]
  staticTypes := #[(.object "jdk/internal/misc/Unsafe"), .boolean, .int, .int, .int, .int, .int, .int, .int, .int, .int, .int, .int, .int, .int, .int, .int, .int, .int, (.object "jdk/internal/access/JavaLangAccess"), .int]
  resolved := Array.replicate 378 none
  statics := none }

def pool16 : Array CpInfo := pool [(1, u "java/lang/Cloneable"), (0, .class_ 1), (0, u "java/lang/Object"), (0, .class_ 3)] 3

/-- java/lang/Cloneable -/
def k16 : Class := { plain "java/lang/Cloneable" (some 0) with
  accessFlags := 1537
  interfaces := #[]
  cf := some (fileOf pool16 2 #[] #[] 1537 4 #[] #[])
  fields := #[]
  methods := #[]
  instanceTypes := #[]
  staticTypes := #[]
  resolved := Array.replicate 8 none
  statics := none }

/-- the primitive byte -/
def k17 : Class := { plain "byte" none with kind := .primitive 'B', accessFlags := 0x411 }
/-- [B -/
def k18 : Class := { plain "[B" (some 0) with kind := .array 17 .byte, interfaces := #[16, 4], accessFlags := 1041 }

/-- the primitive char -/
def k19 : Class := { plain "char" none with kind := .primitive 'C', accessFlags := 0x411 }
/-- [C -/
def k20 : Class := { plain "[C" (some 0) with kind := .array 19 .char, interfaces := #[16, 4], accessFlags := 1041 }

/-- the primitive int -/
def k21 : Class := { plain "int" none with kind := .primitive 'I', accessFlags := 0x411 }
/-- [I -/
def k22 : Class := { plain "[I" (some 0) with kind := .array 21 .int, interfaces := #[16, 4], accessFlags := 1041 }

def heap : Heap := #[{ cls := 6, slots := #[.ref 4, .ref 5, .ref 6, .ref 7, .ref 8, .ref 9, .ref 10, .ref 11, .ref 12, .ref 13, .ref 14, .ref 15, .null, .null], vm := .statics 6 },
  { cls := 7, slots := #[.ref 16, .ref 17, .ref 18, .ref 19, .ref 20, .null], vm := .statics 7 },
  { cls := 10, slots := #[.long 0, .int 1, .null, .int 0, .null, .int 0, .int 0], vm := .statics 10 },
  { cls := 14, slots := #[.null, .null, .null], vm := .statics 14 },
  { cls := 6, slots := #[.null, .int 0, .int 0, .null, .null], vm := .none },
  { cls := 6, slots := #[.null, .int 1, .int 0, .null, .null], vm := .none },
  { cls := 6, slots := #[.null, .int 2, .int 0, .null, .null], vm := .none },
  { cls := 6, slots := #[.null, .int 3, .int 0, .null, .null], vm := .none },
  { cls := 6, slots := #[.null, .int 4, .int 0, .null, .null], vm := .none },
  { cls := 6, slots := #[.null, .int 5, .int 0, .null, .null], vm := .none },
  { cls := 6, slots := #[.null, .int 6, .int 0, .null, .null], vm := .none },
  { cls := 6, slots := #[.null, .int 7, .int 0, .null, .null], vm := .none },
  { cls := 6, slots := #[.null, .int 8, .int 0, .null, .null], vm := .none },
  { cls := 6, slots := #[.null, .int 9, .int 0, .null, .null], vm := .none },
  { cls := 6, slots := #[.null, .int 10, .int 0, .null, .null], vm := .none },
  { cls := 6, slots := #[.null, .int 11, .int 0, .null, .null], vm := .none },
  { cls := 7, slots := #[.null, .int 0, .int 0], vm := .none },
  { cls := 7, slots := #[.null, .int 1, .int 0], vm := .none },
  { cls := 7, slots := #[.null, .int 2, .int 0], vm := .none },
  { cls := 7, slots := #[.null, .int 3, .int 0], vm := .none },
  { cls := 7, slots := #[.null, .int 4, .int 0], vm := .none }]
def classes : Array Class := #[k0, k1, k2, k3, k4, k5, k6, k7, k8, k9, k10, k11, k12, k13, k14, k15, k16, k17, k18, k19, k20, k21, k22]
def interned : List (Array UInt16 × Addr) := []
def slotsUsed : Nat := 105
def theMethod : MethodId := ⟨1, 3⟩
def args0 : Array Value := #[.int 3, .int 4, .int 5, .int 6, .int 7, .int 8]
def aboutOver (below : List Frame) : State where
  vm := { classes := classes, interned := interned.toArray }
  heap := heap
  slotsUsed := slotsUsed
  threads := #[{ frames := .invoking theMethod args0 :: below }]
def below0 : List Frame := [.native { method := ⟨0, 0⟩, args := #[] }]
def about1 : State := aboutOver below0
def p0 : Program := .bare "" "" ""
def e0 : Env := launch0.env 0 0 0
theorem w_frames : about1.frames = Frame.invoking theMethod args0 :: below0 := rfl
set_option maxRecDepth 65536 in
theorem w_args : argsFit about1.vm theMethod args0 = true := by decide +kernel
set_option maxRecDepth 65536 in
theorem w_heap : heapFits about1 = true := by decide +kernel
set_option maxRecDepth 65536 in
theorem w_runnable : about1.curStatus? = some .runnable := by decide +kernel
set_option maxRecDepth 65536 in
theorem w_alone : about1.alone = true := by decide +kernel
set_option maxRecDepth 65536 in
theorem w_named : about1.methodNamed? x = some theMethod := by decide +kernel
set_option maxRecDepth 65536 in
theorem w_hears : about1.hears theMethod below0 = true := by decide +kernel
set_option maxRecDepth 65536 in
theorem w_ripe : about1.ripe theMethod args0 below0 = true := by decide +kernel
theorem w_running : about1.status = .running := rfl
set_option maxRecDepth 65536 in
theorem w_room : about1.hasRoom e0.platform room_1 = true :=
  launch0.hasRoom_least _ room_1 (by decide +kernel) (by decide +kernel) (by decide +kernel) (by decide +kernel) (by decide +kernel) (by decide +kernel)
theorem allAtoms_all (ts : List Jvm.Cond) (a : Array Jvm.Value) (st : Jvm.State) : (allAtoms ts).before a st = ts.all (fun c => c.before a st) := by
  induction ts with
  | nil => rfl
  | cons c t ih =>
    show (Jvm.Cond.and c (allAtoms t)).before a st = _
    rw [Jvm.Cond.before_and, ih, List.all_cons]
def words1 : List Jvm.Cond := Jvm.Cond.code x code maxLocals ret :: tables_1
/-- a 'code' word, met by the world's own term for the bytes: nothing is compared byte by byte -/
theorem code_word {y : MethodName} {bytes : ByteArray} {mx : Nat} {rt : Option FieldType} {a : Array Value} {s : State} {m : MethodId} {meth : Method} {c : Code} (h1 : s.methodNamed? y = some m) (h2 : s.vm.method? m = some meth) (h3 : meth.code = some c) (h4 : c.code = bytes)
    (h5 : (c.maxLocals == mx && c.exceptionTable.isEmpty && decide (c.maxStack ≤ mostOperands) && decide (meth.sig.returnType = rt) && !meth.locks && decide (parseMethodDescriptor y.desc = some meth.sig)) = true) : (Jvm.Cond.code y bytes mx rt).before a s = true := by
  simp only [Bool.and_eq_true, beq_iff_eq, Bool.not_eq_true', decide_eq_true_eq] at h5
  obtain ⟨⟨⟨⟨⟨g1, g2⟩, g3⟩, g4⟩, g5⟩, g6⟩ := h5
  simp [Cond.before, Cond.holds, Cond.value, h1, h2, h3, h4, g1, g2, g3, g4, g5, g6]
def isCode : Jvm.Cond → Bool
  | .code _ _ _ _ => true
  | _ => false
theorem all_split {L : List Jvm.Cond} {P : Jvm.Cond → Bool} (h1 : L.all (fun c => isCode c || P c) = true) (h2 : ∀ c ∈ L.filter isCode, P c = true) : L.all P = true := by
  refine List.all_eq_true.mpr fun c hc => ?_
  have h := List.all_eq_true.mp h1 c hc
  rcases Bool.eq_false_or_eq_true (isCode c) with hi | hi
  · exact h2 c (List.mem_filter.mpr ⟨hc, hi⟩)
  · simpa [hi] using h
set_option maxRecDepth 65536 in
theorem w_c0 : (Jvm.Cond.code x code maxLocals ret).before args0 about1 = true := code_word (m := ⟨1, 3⟩) (meth := k1m3) (c := k1c3) (by decide +kernel) rfl rfl rfl (by decide +kernel)
set_option maxRecDepth 65536 in
theorem w_c1 : (Jvm.Cond.code ({ cls := "com/example/rungsight/rungsight/flow/VariableIsIntegerPinLaw", name := "typeOf", desc := "(I)Lcom/example/rungsight/rungsight/types/IntegerType;" } : Jvm.MethodName) method_2_code (1 : Nat) (Option.some (Jvm.ClassFile.FieldType.object "com/example/rungsight/rungsight/types/IntegerType"))).before args0 about1 = true := code_word (m := ⟨1, 1⟩) (meth := k1m1) (c := k1c1) (by decide +kernel) rfl rfl rfl (by decide +kernel)
set_option maxRecDepth 65536 in
theorem w_c2 : (Jvm.Cond.code ({ cls := "com/example/rungsight/rungsight/flow/VariableIsIntegerPinLaw", name := "originOf", desc := "(I)Lcom/example/rungsight/rungsight/flow/Variable$Origin;" } : Jvm.MethodName) method_3_code (1 : Nat) (Option.some (Jvm.ClassFile.FieldType.object "com/example/rungsight/rungsight/flow/Variable$Origin"))).before args0 about1 = true := code_word (m := ⟨1, 2⟩) (meth := k1m2) (c := k1c2) (by decide +kernel) rfl rfl rfl (by decide +kernel)
set_option maxRecDepth 65536 in
theorem w_c3 : (Jvm.Cond.code ({ cls := "java/lang/String", name := "<init>", desc := "([C)V" } : Jvm.MethodName) jdk_42_method_3_code (2 : Nat) (Option.none : Option Jvm.ClassFile.FieldType)).before args0 about1 = true := code_word (m := ⟨10, 1⟩) (meth := k10m1) (c := k10c1) (by decide +kernel) rfl rfl rfl (by decide +kernel)
set_option maxRecDepth 65536 in
theorem w_c4 : (Jvm.Cond.code ({ cls := "java/lang/String", name := "<init>", desc := "([CIILjava/lang/Void;)V" } : Jvm.MethodName) jdk_42_method_149_code (6 : Nat) (Option.none : Option Jvm.ClassFile.FieldType)).before args0 about1 = true := code_word (m := ⟨10, 2⟩) (meth := k10m2) (c := k10c2) (by decide +kernel) rfl rfl rfl (by decide +kernel)
set_option maxRecDepth 65536 in
theorem w_c5 : (Jvm.Cond.code ({ cls := "java/lang/Object", name := "<init>", desc := "()V" } : Jvm.MethodName) object_method_1_code (1 : Nat) (Option.none : Option Jvm.ClassFile.FieldType)).before args0 about1 = true := code_word (m := ⟨0, 0⟩) (meth := k0m0) (c := k0c0) (by decide +kernel) rfl rfl rfl (by decide +kernel)
set_option maxRecDepth 65536 in
theorem w_c6 : (Jvm.Cond.code ({ cls := "java/lang/StringUTF16", name := "compress", desc := "([CII)[B" } : Jvm.MethodName) jdk_52_method_16_code (6 : Nat) (Option.some (Jvm.ClassFile.FieldType.array Jvm.ClassFile.FieldType.byte))).before args0 about1 = true := code_word (m := ⟨11, 2⟩) (meth := k11m2) (c := k11c2) (by decide +kernel) rfl rfl rfl (by decide +kernel)
set_option maxRecDepth 65536 in
theorem w_c7 : (Jvm.Cond.code ({ cls := "java/lang/StringUTF16", name := "compress", desc := "([CI[BII)I" } : Jvm.MethodName) jdk_52_method_21_code (7 : Nat) (Option.some Jvm.ClassFile.FieldType.int)).before args0 about1 = true := code_word (m := ⟨11, 3⟩) (meth := k11m3) (c := k11c3) (by decide +kernel) rfl rfl rfl (by decide +kernel)
set_option maxRecDepth 65536 in
theorem w_c8 : (Jvm.Cond.code ({ cls := "java/lang/StringUTF16", name := "coderFromArrayLen", desc := "([BI)B" } : Jvm.MethodName) jdk_52_method_15_code (2 : Nat) (Option.some Jvm.ClassFile.FieldType.byte)).before args0 about1 = true := code_word (m := ⟨11, 1⟩) (meth := k11m1) (c := k11c1) (by decide +kernel) rfl rfl rfl (by decide +kernel)
set_option maxRecDepth 65536 in
theorem w_c9 : (Jvm.Cond.code ({ cls := "com/example/rungsight/rungsight/flow/Variable", name := "<init>", desc := site_134.desc } : Jvm.MethodName) prog_38_method_1_code (11 : Nat) (Option.none : Option Jvm.ClassFile.FieldType)).before args0 about1 = true := code_word (m := ⟨12, 0⟩) (meth := k12m0) (c := k12c0) (by decide +kernel) rfl rfl rfl (by decide +kernel)
set_option maxRecDepth 65536 in
theorem w_c10 : (Jvm.Cond.code ({ cls := "com/example/rungsight/rungsight/flow/Variable", name := "isInteger", desc := "()Z" } : Jvm.MethodName) prog_38_method_4_code (1 : Nat) (Option.some Jvm.ClassFile.FieldType.boolean)).before args0 about1 = true := code_word (m := ⟨12, 2⟩) (meth := k12m2) (c := k12c2) (by decide +kernel) rfl rfl rfl (by decide +kernel)
set_option maxRecDepth 65536 in
theorem w_c11 : (Jvm.Cond.code ({ cls := "com/example/rungsight/rungsight/flow/Variable", name := "type", desc := "()Lcom/example/rungsight/rungsight/types/IntegerType;" } : Jvm.MethodName) prog_38_method_3_code (1 : Nat) (Option.some (Jvm.ClassFile.FieldType.object "com/example/rungsight/rungsight/types/IntegerType"))).before args0 about1 = true := code_word (m := ⟨12, 1⟩) (meth := k12m1) (c := k12c1) (by decide +kernel) rfl rfl rfl (by decide +kernel)
def codes1 : List Jvm.Cond := [Jvm.Cond.code x code maxLocals ret, Jvm.Cond.code ({ cls := "com/example/rungsight/rungsight/flow/VariableIsIntegerPinLaw", name := "typeOf", desc := "(I)Lcom/example/rungsight/rungsight/types/IntegerType;" } : Jvm.MethodName) method_2_code (1 : Nat) (Option.some (Jvm.ClassFile.FieldType.object "com/example/rungsight/rungsight/types/IntegerType")), Jvm.Cond.code ({ cls := "com/example/rungsight/rungsight/flow/VariableIsIntegerPinLaw", name := "originOf", desc := "(I)Lcom/example/rungsight/rungsight/flow/Variable$Origin;" } : Jvm.MethodName) method_3_code (1 : Nat) (Option.some (Jvm.ClassFile.FieldType.object "com/example/rungsight/rungsight/flow/Variable$Origin")), Jvm.Cond.code ({ cls := "java/lang/String", name := "<init>", desc := "([C)V" } : Jvm.MethodName) jdk_42_method_3_code (2 : Nat) (Option.none : Option Jvm.ClassFile.FieldType), Jvm.Cond.code ({ cls := "java/lang/String", name := "<init>", desc := "([CIILjava/lang/Void;)V" } : Jvm.MethodName) jdk_42_method_149_code (6 : Nat) (Option.none : Option Jvm.ClassFile.FieldType), Jvm.Cond.code ({ cls := "java/lang/Object", name := "<init>", desc := "()V" } : Jvm.MethodName) object_method_1_code (1 : Nat) (Option.none : Option Jvm.ClassFile.FieldType), Jvm.Cond.code ({ cls := "java/lang/StringUTF16", name := "compress", desc := "([CII)[B" } : Jvm.MethodName) jdk_52_method_16_code (6 : Nat) (Option.some (Jvm.ClassFile.FieldType.array Jvm.ClassFile.FieldType.byte)), Jvm.Cond.code ({ cls := "java/lang/StringUTF16", name := "compress", desc := "([CI[BII)I" } : Jvm.MethodName) jdk_52_method_21_code (7 : Nat) (Option.some Jvm.ClassFile.FieldType.int), Jvm.Cond.code ({ cls := "java/lang/StringUTF16", name := "coderFromArrayLen", desc := "([BI)B" } : Jvm.MethodName) jdk_52_method_15_code (2 : Nat) (Option.some Jvm.ClassFile.FieldType.byte), Jvm.Cond.code ({ cls := "com/example/rungsight/rungsight/flow/Variable", name := "<init>", desc := site_134.desc } : Jvm.MethodName) prog_38_method_1_code (11 : Nat) (Option.none : Option Jvm.ClassFile.FieldType), Jvm.Cond.code ({ cls := "com/example/rungsight/rungsight/flow/Variable", name := "isInteger", desc := "()Z" } : Jvm.MethodName) prog_38_method_4_code (1 : Nat) (Option.some Jvm.ClassFile.FieldType.boolean), Jvm.Cond.code ({ cls := "com/example/rungsight/rungsight/flow/Variable", name := "type", desc := "()Lcom/example/rungsight/rungsight/types/IntegerType;" } : Jvm.MethodName) prog_38_method_3_code (1 : Nat) (Option.some (Jvm.ClassFile.FieldType.object "com/example/rungsight/rungsight/types/IntegerType"))]
set_option maxRecDepth 65536 in
theorem codes_eq : words1.filter isCode = codes1 := rfl
theorem w_codes : ∀ c ∈ words1.filter isCode, c.before args0 about1 = true := by
  rw [codes_eq]
  intro c hc
  simp only [codes1, List.mem_cons, List.not_mem_nil, or_false] at hc
  rcases hc with rfl | rfl | rfl | rfl | rfl | rfl | rfl | rfl | rfl | rfl | rfl | rfl
  · exact w_c0
  · exact w_c1
  · exact w_c2
  · exact w_c3
  · exact w_c4
  · exact w_c5
  · exact w_c6
  · exact w_c7
  · exact w_c8
  · exact w_c9
  · exact w_c10
  · exact w_c11
set_option maxRecDepth 65536 in
theorem w_t1 : (words1.take 24).all (fun c => isCode c || c.before args0 about1) = true := by decide +kernel
set_option maxRecDepth 65536 in
theorem w_t2 : ((words1.drop 24).take 24).all (fun c => isCode c || c.before args0 about1) = true := by decide +kernel
set_option maxRecDepth 65536 in
theorem w_t3 : (((words1.drop 24).drop 24).take 24).all (fun c => isCode c || c.before args0 about1) = true := by decide +kernel
set_option maxRecDepth 65536 in
theorem w_t4 : ((((words1.drop 24).drop 24).drop 24).take 24).all (fun c => isCode c || c.before args0 about1) = true := by decide +kernel
set_option maxRecDepth 65536 in
theorem w_t5 : ((((words1.drop 24).drop 24).drop 24).drop 24).all (fun c => isCode c || c.before args0 about1) = true := by decide +kernel
theorem w_tables : (allAtoms (Jvm.Cond.code x code maxLocals ret :: tables_1)).before args0 about1 = true := by
  rw [allAtoms_all]
  show words1.all (fun c => c.before args0 about1) = true
  refine all_split ?_ w_codes
  rw [← List.take_append_drop 24 words1, List.all_append, w_t1, ← List.take_append_drop 24 (words1.drop 24), List.all_append, w_t2, ← List.take_append_drop 24 ((words1.drop 24).drop 24), List.all_append, w_t3, ← List.take_append_drop 24 (((words1.drop 24).drop 24).drop 24), List.all_append, w_t4, w_t5]
  rfl
set_option maxRecDepth 65536 in
theorem w_rest : rest_1_c.before args0 about1 = true := by decide +kernel
set_option maxRecDepth 65536 in
theorem w_case : (Jvm.Cond.and given_1 narrow_1).before args0 about1 = true := by decide +kernel
theorem w_applies : (headSpec (Jvm.Cond.code x code maxLocals ret :: tables_1) room_1).applies x e0.platform about1 = true :=
  (Spec.applies_iff w_frames).mpr ⟨w_running, w_runnable, w_alone, w_named, w_hears, w_ripe, w_room, w_tables⟩
theorem atStart : AtStart classFile x code maxLocals ret World_1 tables_1 room_1 Calls_1 rest_1 Pre_1 launch0 p0 e0 about1 theMethod args0 below0 :=
  ⟨lists_1, trivial, launch0.admits_env _ _ _, launch0.least_env, fairChoices_fair.cas, fairChoices_fair.clock, w_frames, w_args, w_heap, w_applies, trivial, w_rest, w_case⟩
end start1
theorem witness_1 : WitnessClaimed_1 := ⟨start1.p0, start1.e0, start1.about1, start1.theMethod, start1.args0, start1.below0, start1.atStart⟩
end Jvm.Pilot.@@N@@

