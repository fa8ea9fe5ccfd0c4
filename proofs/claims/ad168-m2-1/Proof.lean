import JvmDerived
import JvmDerived.Pilot.@@N@@Statement
import JvmDerived.Pilot.@@N@@Code
set_option linter.unusedVariables false
set_option linter.unusedSimpArgs false
namespace Jvm.OwnW
open Sem ClassFile Op Lib Jvm.Free Jvm.Stand Jvm.LawKit Jvm.RoadKit
/-- what stays the same all through one invocation -/
abbrev Ctx : Type := Program × Env × State × MethodId × Array Value × List Frame × Method × Code
abbrev Ctx.p (C : Ctx) : Program := C.1
abbrev Ctx.e (C : Ctx) : Env := C.2.1
abbrev Ctx.s (C : Ctx) : State := C.2.2.1
abbrev Ctx.m (C : Ctx) : MethodId := C.2.2.2.1
abbrev Ctx.args (C : Ctx) : Array Value := C.2.2.2.2.1
abbrev Ctx.below (C : Ctx) : List Frame := C.2.2.2.2.2.1
abbrev Ctx.meth (C : Ctx) : Method := C.2.2.2.2.2.2.1
abbrev Ctx.c (C : Ctx) : Code := C.2.2.2.2.2.2.2
/-- each place of the list lies in a cell of ws, or in one made since -/
def Wok (b : Nat) (ws : List Addr) (L : List Loc) : Prop := ∀ y ∈ L, y.base ∈ ws ∨ b ≤ y.base
theorem Wok.nil (b : Nat) (ws : List Addr) : Wok b ws [] := fun _ q => nomatch q
theorem Wok.app {b : Nat} {ws : List Addr} {L L' : List Loc} (N : Wok b ws L) (N' : Wok b ws L') : Wok b ws (L ++ L') := fun y q => (List.mem_append.mp q).elim (N y) (N' y)
theorem Wok.snoc {b : Nat} {ws : List Addr} {L : List Loc} {a : Addr} {sl : Nat} (N : Wok b ws L) (q : a ∈ ws ∨ b ≤ a) : Wok b ws (L ++ [⟨a, sl⟩]) := N.app fun y hy => by cases List.mem_singleton.mp hy; exact q
theorem keep_of_same {s t : State} {L : List Loc} {ws : List Addr} {k n : Nat} (h : s.sameButNew t L k n) (N : Wok s.heap.size ws L) : Keep s.heap t.heap ws := by
  obtain ⟨-, h2, -, -, -, h6⟩ := h
  refine ⟨h2, fun x c hx hn => ?_, fun x c hx => ?_⟩
  · obtain ⟨c', q1, q2, q3, q4⟩ := h6 x c hx
    have hlt := (Array.getElem?_eq_some_iff.mp hx).1
    have : c'.slots = c.slots := Array.ext_getElem? fun i => q4 i fun hm => (N _ hm).elim hn fun z => absurd hlt (Nat.not_lt.mpr z)
    rw [q1, q2, this]
  · obtain ⟨c', q1, q2, q3, q4⟩ := h6 x c hx
    exact ⟨c', q1, by rw [q2], by rw [q2], q3⟩
theorem eq_of_same {s t : State} {L : List Loc} {n : Nat} (h : s.sameButNew t L 0 n) (N : Wok s.heap.size [] L) : t.heap = s.heap := by
  have K := keep_of_same h N
  obtain ⟨-, h2, h3, -⟩ := h
  refine Array.ext_getElem? fun i => ?_
  cases hi : s.heap[i]? with
  | some c => exact K.2.1 i c hi (fun q => nomatch q)
  | none =>
    rw [Array.getElem?_eq_none_iff] at hi ⊢
    omega
/-- where the run stands: the invocation's state T with heap h; of what is older than the invocation only ws has been written -/
def On (l : Launch) (Z : State) (ws : List Addr) (R : Room) (own nm : String) (bytes : ByteArray) (maxL : Nat) (ret : Option FieldType) (C : Ctx) (T : State) (h : Heap) (cells slots : Nat) : Prop :=
  (C.p.tables.exec = Jvm.exec ∧ Z.Warmed39 C.s.vm ∧ C.c.code = bytes ∧ C.c.maxLocals = maxL ∧ C.s.vm.findClass own = some C.m.cls ∧ C.meth.name = nm ∧ C.meth.sig.returnType = ret ∧ C.meth.locks = false) ∧
  (∃ locs, Stand C.p l C.e R C.s C.m C.args C.below C.meth C.c T locs cells slots ∧ Wok C.s.heap.size ws locs) ∧ T.heap = h
def Post (ws : List Addr) (rc : Nat) (h0 : Heap) (Q : Option Value → Heap → Prop) (v : Option Value) (h : Heap) (L : List Loc) : Prop := Wok h0.size ws L ∧ Keep h0 h ws ∧ (rc = 0 → ws = [] → h = h0) ∧ Q v h
/-- from the state A the invocation comes to its end, with Q of what it returns and of the heap it leaves -/
def Go (C : Ctx) (ws : List Addr) (Q : Option Value → Heap → Prop) (k n : Nat) (A : State) : Prop :=
  ∃ U o, Steps C.p.tables C.e C.below A U ∧ U.status = .running ∧ Ended U C.below o ∧ ∃ v L, o = .returned v ∧ Post ws k C.s.heap Q v U.heap L ∧ FrameEnd C.s o U L k n
def Met (l : Launch) (Z : State) (y : MethodName) (bytes : ByteArray) (maxL : Nat) (ret : Option FieldType) (wds : List Cond) (rm : Room) (as' : Array Value) (ws : List Addr) (h0 : Heap) (Q : Option Value → Heap → Prop) : Prop :=
  MetFree l y (head1 (Cond.code y bytes maxL ret :: wds) rm) (fun a U => a = as' ∧ Z.Warmed39 U.vm ∧ U.heap = h0) (fun _ _ _ _ _ => True) (fun _ U o U' => ∃ v L, o = .returned v ∧ Post ws rm.cells h0 Q v U'.heap L ∧ FrameEnd U o U' L rm.cells rm.slots)
theorem Met.mk {l : Launch} {Z : State} {y : MethodName} {bytes : ByteArray} {maxL : Nat} {ret : Option FieldType} {wds : List Cond} {rm : Room} {as' : Array Value} {ws : List Addr} {h0 : Heap} {Q : Option Value → Heap → Prop} {Ls : Array Slot}
    (hp : plainFor y = true) (ef : ∀ m, entryFrame m as' maxL = mkF m 0 Ls [])
    (H : ∀ (C : Ctx) (T : State), C.s.heap = h0 → On l Z ws rm y.cls y.name bytes maxL ret C T h0 0 0 → Go C ws Q rm.cells rm.slots (T.setTop (mkF C.m 0 Ls []))) : Met l Z y bytes maxL ret wds rm as' ws h0 Q := by
  refine MetFree.of_bodySF hp hisR ?_
  intro p e s m args below meth c s₁ Bd hml0 hP hK
  obtain ⟨rfl, hZ, hh⟩ := hP
  have e0 : s₁.heap = h0 := by rw [← hh, Bd.state]; rfl
  have := H (p, e, s, m, args, below, meth, c) s₁ hh ⟨⟨Bd.exec, hZ, Bd.bytes, hml0, findClass_of_methodNamed Bd.named, (name_of_methodNamed Bd.named Bd.method).1, Bd.returns, Bd.notSynchronized⟩, ⟨[], Stand.of_body Bd, Wok.nil _ _⟩, e0⟩
  obtain ⟨U, o, h1, h2, h3, v, L, h4, h5, h6⟩ := this
  refine ⟨U, o, castTop (ef m) h1, h2, h3, v, L, h4, ?_, h6⟩
  rw [← hh]; exact h5
theorem Go.of {C : Ctx} {ws : List Addr} {Q : Option Value → Heap → Prop} {k n : Nat} {A B : State} (g : Go C ws Q k n B) (h : ∀ t, Steps C.p.tables C.e C.below B t → Steps C.p.tables C.e C.below A t) : Go C ws Q k n A := by
  obtain ⟨U, o, h1, r⟩ := g; exact ⟨U, o, h _ h1, r⟩
theorem Go.via {C : Ctx} {ws : List Addr} {Q : Option Value → Heap → Prop} {k n : Nat} {A B : State} (g : Go C ws Q k n B) (h : Steps C.p.tables C.e C.below A B) : Go C ws Q k n A := by
  obtain ⟨U, o, h1, r⟩ := g; exact ⟨U, o, h.trans h1, r⟩
section Steps
variable {l : Launch} {Z : State} {a0 : Array Value} {ws : List Addr} {R : Room} {own nm : String} {bytes : ByteArray} {maxL : Nat} {ret : Option FieldType} {C : Ctx} {T : State} {h : Heap} {cells slots k n : Nat} {Q : Option Value → Heap → Prop} {pc q : Nat} {Ls L' : Array Slot} {st : List Value}
theorem On.size (O : On l Z ws R own nm bytes maxL ret C T h cells slots) : C.s.heap.size ≤ h.size := by
  obtain ⟨-, ⟨_, X, -⟩, rfl⟩ := O; exact X.same.2.1
theorem On.kept (O : On l Z ws R own nm bytes maxL ret C T h cells slots) : Keep C.s.heap h ws := by
  obtain ⟨-, ⟨_, X, N⟩, rfl⟩ := O; exact keep_of_same (t := T.setVm C.s.vm) X.same N
theorem fin (O : On l Z ws R own nm bytes maxL ret C T h cells slots) {v : Option Value} (hv : ret = none → v = none) (hk : cells ≤ k) (hn : slots ≤ n) (hQ : Q v h)
    (stp : ∀ X : State, ∀ fs, (∀ (f : JFrame) (acts : List Action), f.method = C.m → f.locked = none → f.entered = [] → (doReturn C.e (T.setTop f) acts v).1 = T.setFrames fs) → X = T.setFrames fs → Steps C.p.tables C.e C.below (T.setTop (mkF C.m pc Ls st)) X) : Go C ws Q k n (T.setTop (mkF C.m pc Ls st)) := by
  obtain ⟨⟨hx, hZ, -, -, -, -, hret, hlk⟩, ⟨L, X, N⟩, eT⟩ := O
  obtain ⟨fs, hr, hrun, hended, hW, hsame⟩ := X.leave (v := v) (fun q => hv (hret ▸ q)) hlk
  refine ⟨_, _, stp _ fs hr rfl, hrun, hended, v, L, rfl, ⟨N, ?_, ?_, ?_⟩, ⟨_, rfl⟩, hW, hsame.mono hk hn⟩
  · exact keep_of_same (t := T.setVm C.s.vm) X.same N
  · rintro rfl rfl
    exact eq_of_same (t := T.setVm C.s.vm) (X.same.mono hk (Nat.le_refl _)) N
  · show Q v T.heap; rw [eT]; exact hQ
theorem ret0 (O : On l Z ws R own nm bytes maxL none C T h cells slots) (hd : decode bytes pc = .ok (.return_, 1)) (hk : cells ≤ k) (hn : slots ≤ n) (hQ : Q none h) : Go C ws Q k n (T.setTop (mkF C.m pc Ls [])) := by
  refine fin O (fun _ => rfl) hk hn hQ ?_
  obtain ⟨⟨hx, hZ, rfl, -, -, -, hret, hlk⟩, ⟨L, X, N⟩, eT⟩ := O
  rintro _ fs hr rfl
  exact X.returnOut hx hret hd hr
theorem retV {t : FieldType} {w w' : Value} {i : Instr} {rest : List Value} (O : On l Z ws R own nm bytes maxL (some t) C T h cells slots) (hd : decode bytes pc = .ok (i, 1)) (hw : w' = w) (hnw : narrow t w = w)
    (hi : (i = .ireturn ∧ (t = .int ∨ t = .boolean ∨ t = .byte ∨ t = .char ∨ t = .short) ∧ ∃ z, w = .int z) ∨ (i = .lreturn ∧ t = .long ∧ ∃ z, w = .long z) ∨ (i = .dreturn ∧ t = .double ∧ ∃ z, w = .double z) ∨ (i = .freturn ∧ t = .float ∧ ∃ z, w = .float z) ∨ (i = .areturn ∧ t.isReference = true ∧ w.isRef = true))
    (hk : cells ≤ k) (hn : slots ≤ n) (hQ : Q (some w) h) : Go C ws Q k n (T.setTop (mkF C.m pc Ls (w' :: rest))) := by
  subst hw
  refine fin O (fun q => nomatch q) hk hn hQ ?_
  obtain ⟨⟨hx, hZ, rfl, -, -, -, hret, hlk⟩, ⟨L, X, N⟩, eT⟩ := O
  rintro _ fs hr rfl
  exact retOut X hx hret hnw hi hd hr
theorem retI {z z' : Int32} {rest : List Value} (O : On l Z ws R own nm bytes maxL (some .int) C T h cells slots) (hd : decode bytes pc = .ok (.ireturn, 1)) (hz : z = z') (hk : cells ≤ k) (hn : slots ≤ n) (hQ : Q (some (.int z')) h) : Go C ws Q k n (T.setTop (mkF C.m pc Ls (.int z :: rest))) :=
  retV O hd (congrArg Value.int hz) rfl (Or.inl ⟨rfl, Or.inl rfl, _, rfl⟩) hk hn hQ
theorem retB {z z' : Int32} {rest : List Value} (O : On l Z ws R own nm bytes maxL (some .boolean) C T h cells slots) (hd : decode bytes pc = .ok (.ireturn, 1)) (hz : z = z') (h01 : z' = 0 ∨ z' = 1) (hk : cells ≤ k) (hn : slots ≤ n) (hQ : Q (some (.int z')) h) : Go C ws Q k n (T.setTop (mkF C.m pc Ls (.int z :: rest))) :=
  retV O hd (congrArg Value.int hz) (by rcases h01 with rfl | rfl <;> rfl) (Or.inl ⟨rfl, Or.inr (Or.inl rfl), _, rfl⟩) hk hn hQ
theorem retY {z z' : Int32} {rest : List Value} (O : On l Z ws R own nm bytes maxL (some .byte) C T h cells slots) (hd : decode bytes pc = .ok (.ireturn, 1)) (hz : z = z') (hb : z'.toInt8.toInt32 = z') (hk : cells ≤ k) (hn : slots ≤ n) (hQ : Q (some (.int z')) h) : Go C ws Q k n (T.setTop (mkF C.m pc Ls (.int z :: rest))) :=
  retV O hd (congrArg Value.int hz) (congrArg Value.int hb) (Or.inl ⟨rfl, Or.inr (Or.inr (Or.inl rfl)), _, rfl⟩) hk hn hQ
theorem retL {z z' : Int64} {rest : List Value} (O : On l Z ws R own nm bytes maxL (some .long) C T h cells slots) (hd : decode bytes pc = .ok (.lreturn, 1)) (hz : z = z') (hk : cells ≤ k) (hn : slots ≤ n) (hQ : Q (some (.long z')) h) : Go C ws Q k n (T.setTop (mkF C.m pc Ls (.long z :: rest))) :=
  retV O hd (congrArg Value.long hz) rfl (Or.inr (Or.inl ⟨rfl, rfl, _, rfl⟩)) hk hn hQ
theorem retA {t : FieldType} {w : Value} {rest : List Value} (O : On l Z ws R own nm bytes maxL (some t) C T h cells slots) (hd : decode bytes pc = .ok (.areturn, 1)) (ht : t.isReference = true) (hw : w.isRef = true) (hnw : narrow t w = w) (hk : cells ≤ k) (hn : slots ≤ n) (hQ : Q (some w) h) : Go C ws Q k n (T.setTop (mkF C.m pc Ls (w :: rest))) :=
  retV O hd rfl hnw (Or.inr (Or.inr (Or.inr (Or.inr ⟨rfl, ht, hw⟩)))) hk hn hQ
theorem iload (O : On l Z ws R own nm bytes maxL ret C T h cells slots) {i : Nat} {v : Int32} (hd : decode bytes pc = .ok (.iload i, 2)) (hl : Ls[i]? = some (.val (.int v))) (hq : pc + 2 = q)
    (K : Go C ws Q k n (T.setTop (mkF C.m q Ls (.int v :: st)))) : Go C ws Q k n (T.setTop (mkF C.m pc Ls (st))) := by
  obtain ⟨⟨hx, -, rfl, -⟩, ⟨_, X, -⟩, -⟩ := O; subst hq
  exact K.of fun _ kk => XS.iload X.here hx rfl hd hl kk
theorem iloadN (O : On l Z ws R own nm bytes maxL ret C T h cells slots) {i : Fin 4} {v : Int32} (hd : decode bytes pc = .ok (.iload_n i, 1)) (hl : Ls[i.val]? = some (.val (.int v))) (hq : pc + 1 = q)
    (K : Go C ws Q k n (T.setTop (mkF C.m q Ls (.int v :: st)))) : Go C ws Q k n (T.setTop (mkF C.m pc Ls (st))) := by
  obtain ⟨⟨hx, -, rfl, -⟩, ⟨_, X, -⟩, -⟩ := O; subst hq
  exact K.of fun _ kk => XS.iloadN X.here hx rfl hd hl kk
theorem lload (O : On l Z ws R own nm bytes maxL ret C T h cells slots) {i : Nat} {v : Int64} (hd : decode bytes pc = .ok (.lload i, 2)) (hl : Ls[i]? = some (.val (.long v))) (hq : pc + 2 = q)
    (K : Go C ws Q k n (T.setTop (mkF C.m q Ls (.long v :: st)))) : Go C ws Q k n (T.setTop (mkF C.m pc Ls (st))) := by
  obtain ⟨⟨hx, -, rfl, -⟩, ⟨_, X, -⟩, -⟩ := O; subst hq
  exact K.of fun _ kk => XS.lload X.here hx rfl hd hl kk
theorem lloadN (O : On l Z ws R own nm bytes maxL ret C T h cells slots) {i : Fin 4} {v : Int64} (hd : decode bytes pc = .ok (.lload_n i, 1)) (hl : Ls[i.val]? = some (.val (.long v))) (hq : pc + 1 = q)
    (K : Go C ws Q k n (T.setTop (mkF C.m q Ls (.long v :: st)))) : Go C ws Q k n (T.setTop (mkF C.m pc Ls (st))) := by
  obtain ⟨⟨hx, -, rfl, -⟩, ⟨_, X, -⟩, -⟩ := O; subst hq
  exact K.of fun _ kk => XS.lloadN X.here hx rfl hd hl kk
theorem aload (O : On l Z ws R own nm bytes maxL ret C T h cells slots) {i : Nat} {v : Value} (hd : decode bytes pc = .ok (.aload i, 2)) (hl : Ls[i]? = some (.val v)) (hv : v.isRef = true) (hq : pc + 2 = q)
    (K : Go C ws Q k n (T.setTop (mkF C.m q Ls (v :: st)))) : Go C ws Q k n (T.setTop (mkF C.m pc Ls (st))) := by
  obtain ⟨⟨hx, -, rfl, -⟩, ⟨_, X, -⟩, -⟩ := O; subst hq
  exact K.of fun _ kk => XS.aload X.here hx rfl hd hl hv kk
theorem aloadN (O : On l Z ws R own nm bytes maxL ret C T h cells slots) {i : Fin 4} {v : Value} (hd : decode bytes pc = .ok (.aload_n i, 1)) (hl : Ls[i.val]? = some (.val v)) (hv : v.isRef = true) (hq : pc + 1 = q)
    (K : Go C ws Q k n (T.setTop (mkF C.m q Ls (v :: st)))) : Go C ws Q k n (T.setTop (mkF C.m pc Ls (st))) := by
  obtain ⟨⟨hx, -, rfl, -⟩, ⟨_, X, -⟩, -⟩ := O; subst hq
  exact K.of fun _ kk => XS.aloadN X.here hx rfl hd hl hv kk
theorem istore (O : On l Z ws R own nm bytes maxL ret C T h cells slots) {i : Nat} {v : Int32} (hd : decode bytes pc = .ok (.istore i, 2)) (hl : storeLocals Ls i (.int v) = some L') (hq : pc + 2 = q)
    (K : Go C ws Q k n (T.setTop (mkF C.m q L' (st)))) : Go C ws Q k n (T.setTop (mkF C.m pc Ls (.int v :: st))) := by
  obtain ⟨⟨hx, -, rfl, -⟩, ⟨_, X, -⟩, -⟩ := O; subst hq
  exact K.of fun _ kk => XS.istore X.here hx rfl hd rfl hl kk
theorem istoreN (O : On l Z ws R own nm bytes maxL ret C T h cells slots) {i : Fin 4} {v : Int32} (hd : decode bytes pc = .ok (.istore_n i, 1)) (hl : storeLocals Ls i.val (.int v) = some L') (hq : pc + 1 = q)
    (K : Go C ws Q k n (T.setTop (mkF C.m q L' (st)))) : Go C ws Q k n (T.setTop (mkF C.m pc Ls (.int v :: st))) := by
  obtain ⟨⟨hx, -, rfl, -⟩, ⟨_, X, -⟩, -⟩ := O; subst hq
  exact K.of fun _ kk => XS.istoreN X.here hx rfl hd rfl hl kk
theorem lstore (O : On l Z ws R own nm bytes maxL ret C T h cells slots) {i : Nat} {v : Int64} (hd : decode bytes pc = .ok (.lstore i, 2)) (hl : storeLocals Ls i (.long v) = some L') (hq : pc + 2 = q)
    (K : Go C ws Q k n (T.setTop (mkF C.m q L' (st)))) : Go C ws Q k n (T.setTop (mkF C.m pc Ls (.long v :: st))) := by
  obtain ⟨⟨hx, -, rfl, -⟩, ⟨_, X, -⟩, -⟩ := O; subst hq
  exact K.of fun _ kk => XS.lstore X.here hx rfl hd rfl hl kk
theorem lstoreN (O : On l Z ws R own nm bytes maxL ret C T h cells slots) {i : Fin 4} {v : Int64} (hd : decode bytes pc = .ok (.lstore_n i, 1)) (hl : storeLocals Ls i.val (.long v) = some L') (hq : pc + 1 = q)
    (K : Go C ws Q k n (T.setTop (mkF C.m q L' (st)))) : Go C ws Q k n (T.setTop (mkF C.m pc Ls (.long v :: st))) := by
  obtain ⟨⟨hx, -, rfl, -⟩, ⟨_, X, -⟩, -⟩ := O; subst hq
  exact K.of fun _ kk => XS.lstoreN X.here hx rfl hd rfl hl kk
theorem astore (O : On l Z ws R own nm bytes maxL ret C T h cells slots) {i : Nat} {v : Value} (hd : decode bytes pc = .ok (.astore i, 2)) (hv : v.isRef = true) (hl : storeLocals Ls i v = some L') (hq : pc + 2 = q)
    (K : Go C ws Q k n (T.setTop (mkF C.m q L' (st)))) : Go C ws Q k n (T.setTop (mkF C.m pc Ls (v :: st))) := by
  obtain ⟨⟨hx, -, rfl, -⟩, ⟨_, X, -⟩, -⟩ := O; subst hq
  exact K.of fun _ kk => XS.astore X.here hx rfl hd rfl hv hl kk
theorem astoreN (O : On l Z ws R own nm bytes maxL ret C T h cells slots) {i : Fin 4} {v : Value} (hd : decode bytes pc = .ok (.astore_n i, 1)) (hv : v.isRef = true) (hl : storeLocals Ls i.val v = some L') (hq : pc + 1 = q)
    (K : Go C ws Q k n (T.setTop (mkF C.m q L' (st)))) : Go C ws Q k n (T.setTop (mkF C.m pc Ls (v :: st))) := by
  obtain ⟨⟨hx, -, rfl, -⟩, ⟨_, X, -⟩, -⟩ := O; subst hq
  exact K.of fun _ kk => XS.astoreN X.here hx rfl hd rfl hv hl kk
theorem iconst (O : On l Z ws R own nm bytes maxL ret C T h cells slots) {i : Int} {r : Int32} (hd : decode bytes pc = .ok (.iconst i, 1)) (hr : Int32.ofInt i = r) (hq : pc + 1 = q)
    (K : Go C ws Q k n (T.setTop (mkF C.m q Ls (.int r :: st)))) : Go C ws Q k n (T.setTop (mkF C.m pc Ls (st))) := by
  obtain ⟨⟨hx, -, rfl, -⟩, ⟨_, X, -⟩, -⟩ := O; subst hq hr
  exact K.of fun _ kk => XS.iconst X.here hx rfl hd kk
theorem bipush (O : On l Z ws R own nm bytes maxL ret C T h cells slots) {i : Int} {r : Int32} (hd : decode bytes pc = .ok (.bipush i, 2)) (hr : (Int8.ofInt i).toInt32 = r) (hq : pc + 2 = q)
    (K : Go C ws Q k n (T.setTop (mkF C.m q Ls (.int r :: st)))) : Go C ws Q k n (T.setTop (mkF C.m pc Ls (st))) := by
  obtain ⟨⟨hx, -, rfl, -⟩, ⟨_, X, -⟩, -⟩ := O; subst hq hr
  exact K.of fun _ kk => XS.bipush X.here hx rfl hd kk
theorem sipush (O : On l Z ws R own nm bytes maxL ret C T h cells slots) {i : Int} {r : Int32} (hd : decode bytes pc = .ok (.sipush i, 3)) (hr : (Int16.ofInt i).toInt32 = r) (hq : pc + 3 = q)
    (K : Go C ws Q k n (T.setTop (mkF C.m q Ls (.int r :: st)))) : Go C ws Q k n (T.setTop (mkF C.m pc Ls (st))) := by
  obtain ⟨⟨hx, -, rfl, -⟩, ⟨_, X, -⟩, -⟩ := O; subst hq hr
  exact K.of fun _ kk => XS.sipush X.here hx rfl hd kk
theorem lconst (O : On l Z ws R own nm bytes maxL ret C T h cells slots) {i : Fin 2} {r : Int64} (hd : decode bytes pc = .ok (.lconst i, 1)) (hr : Int64.ofNat i = r) (hq : pc + 1 = q)
    (K : Go C ws Q k n (T.setTop (mkF C.m q Ls (.long r :: st)))) : Go C ws Q k n (T.setTop (mkF C.m pc Ls (st))) := by
  obtain ⟨⟨hx, -, rfl, -⟩, ⟨_, X, -⟩, -⟩ := O; subst hq hr
  exact K.of fun _ kk => XS.lconst X.here hx rfl hd kk
theorem aconst_null (O : On l Z ws R own nm bytes maxL ret C T h cells slots)  (hd : decode bytes pc = .ok (.aconst_null, 1))  (hq : pc + 1 = q)
    (K : Go C ws Q k n (T.setTop (mkF C.m q Ls (.null :: st)))) : Go C ws Q k n (T.setTop (mkF C.m pc Ls (st))) := by
  obtain ⟨⟨hx, -, rfl, -⟩, ⟨_, X, -⟩, -⟩ := O; subst hq
  exact K.of fun _ kk => XS.aconstNull X.here hx rfl hd kk
theorem iadd (O : On l Z ws R own nm bytes maxL ret C T h cells slots) {x y r : Int32} (hd : decode bytes pc = .ok (.iadd, 1)) (hr : x + y = r) (hq : pc + 1 = q)
    (K : Go C ws Q k n (T.setTop (mkF C.m q Ls (.int r :: st)))) : Go C ws Q k n (T.setTop (mkF C.m pc Ls (.int y :: .int x :: st))) := by
  obtain ⟨⟨hx, -, rfl, -⟩, ⟨_, X, -⟩, -⟩ := O; subst hq hr
  exact K.of fun _ kk => XS.iadd X.here hx rfl hd rfl kk
theorem isub (O : On l Z ws R own nm bytes maxL ret C T h cells slots) {x y r : Int32} (hd : decode bytes pc = .ok (.isub, 1)) (hr : x - y = r) (hq : pc + 1 = q)
    (K : Go C ws Q k n (T.setTop (mkF C.m q Ls (.int r :: st)))) : Go C ws Q k n (T.setTop (mkF C.m pc Ls (.int y :: .int x :: st))) := by
  obtain ⟨⟨hx, -, rfl, -⟩, ⟨_, X, -⟩, -⟩ := O; subst hq hr
  exact K.of fun _ kk => XS.isub X.here hx rfl hd rfl kk
theorem imul (O : On l Z ws R own nm bytes maxL ret C T h cells slots) {x y r : Int32} (hd : decode bytes pc = .ok (.imul, 1)) (hr : x * y = r) (hq : pc + 1 = q)
    (K : Go C ws Q k n (T.setTop (mkF C.m q Ls (.int r :: st)))) : Go C ws Q k n (T.setTop (mkF C.m pc Ls (.int y :: .int x :: st))) := by
  obtain ⟨⟨hx, -, rfl, -⟩, ⟨_, X, -⟩, -⟩ := O; subst hq hr
  exact K.of fun _ kk => XS.imul X.here hx rfl hd rfl kk
theorem iand (O : On l Z ws R own nm bytes maxL ret C T h cells slots) {x y r : Int32} (hd : decode bytes pc = .ok (.iand, 1)) (hr : x &&& y = r) (hq : pc + 1 = q)
    (K : Go C ws Q k n (T.setTop (mkF C.m q Ls (.int r :: st)))) : Go C ws Q k n (T.setTop (mkF C.m pc Ls (.int y :: .int x :: st))) := by
  obtain ⟨⟨hx, -, rfl, -⟩, ⟨_, X, -⟩, -⟩ := O; subst hq hr
  exact K.of fun _ kk => XS.iand X.here hx rfl hd rfl kk
theorem ior (O : On l Z ws R own nm bytes maxL ret C T h cells slots) {x y r : Int32} (hd : decode bytes pc = .ok (.ior, 1)) (hr : x ||| y = r) (hq : pc + 1 = q)
    (K : Go C ws Q k n (T.setTop (mkF C.m q Ls (.int r :: st)))) : Go C ws Q k n (T.setTop (mkF C.m pc Ls (.int y :: .int x :: st))) := by
  obtain ⟨⟨hx, -, rfl, -⟩, ⟨_, X, -⟩, -⟩ := O; subst hq hr
  exact K.of fun _ kk => XS.ior X.here hx rfl hd rfl kk
theorem ixor (O : On l Z ws R own nm bytes maxL ret C T h cells slots) {x y r : Int32} (hd : decode bytes pc = .ok (.ixor, 1)) (hr : x ^^^ y = r) (hq : pc + 1 = q)
    (K : Go C ws Q k n (T.setTop (mkF C.m q Ls (.int r :: st)))) : Go C ws Q k n (T.setTop (mkF C.m pc Ls (.int y :: .int x :: st))) := by
  obtain ⟨⟨hx, -, rfl, -⟩, ⟨_, X, -⟩, -⟩ := O; subst hq hr
  exact K.of fun _ kk => XS.ixor X.here hx rfl hd rfl kk
theorem ishl (O : On l Z ws R own nm bytes maxL ret C T h cells slots) {x y r : Int32} (hd : decode bytes pc = .ok (.ishl, 1)) (hr : x <<< (y &&& 31) = r) (hq : pc + 1 = q)
    (K : Go C ws Q k n (T.setTop (mkF C.m q Ls (.int r :: st)))) : Go C ws Q k n (T.setTop (mkF C.m pc Ls (.int y :: .int x :: st))) := by
  obtain ⟨⟨hx, -, rfl, -⟩, ⟨_, X, -⟩, -⟩ := O; subst hq hr
  exact K.of fun _ kk => XS.ishl X.here hx rfl hd rfl kk
theorem ishr (O : On l Z ws R own nm bytes maxL ret C T h cells slots) {x y r : Int32} (hd : decode bytes pc = .ok (.ishr, 1)) (hr : x >>> (y &&& 31) = r) (hq : pc + 1 = q)
    (K : Go C ws Q k n (T.setTop (mkF C.m q Ls (.int r :: st)))) : Go C ws Q k n (T.setTop (mkF C.m pc Ls (.int y :: .int x :: st))) := by
  obtain ⟨⟨hx, -, rfl, -⟩, ⟨_, X, -⟩, -⟩ := O; subst hq hr
  exact K.of fun _ kk => XS.ishr X.here hx rfl hd rfl kk
theorem iushr (O : On l Z ws R own nm bytes maxL ret C T h cells slots) {x y r : Int32} (hd : decode bytes pc = .ok (.iushr, 1)) (hr : (x.toUInt32 >>> (y &&& 31).toUInt32).toInt32 = r) (hq : pc + 1 = q)
    (K : Go C ws Q k n (T.setTop (mkF C.m q Ls (.int r :: st)))) : Go C ws Q k n (T.setTop (mkF C.m pc Ls (.int y :: .int x :: st))) := by
  obtain ⟨⟨hx, -, rfl, -⟩, ⟨_, X, -⟩, -⟩ := O; subst hq hr
  exact K.of fun _ kk => XS.iushr X.here hx rfl hd rfl kk
theorem idiv (O : On l Z ws R own nm bytes maxL ret C T h cells slots) {x y r : Int32} (hd : decode bytes pc = .ok (.idiv, 1)) (hy : y ≠ 0) (hr : x / y = r) (hq : pc + 1 = q)
    (K : Go C ws Q k n (T.setTop (mkF C.m q Ls (.int r :: st)))) : Go C ws Q k n (T.setTop (mkF C.m pc Ls (.int y :: .int x :: st))) := by
  obtain ⟨⟨hx, -, rfl, -⟩, ⟨_, X, -⟩, -⟩ := O; subst hq hr
  exact K.of fun _ kk => XS.idiv X.here hx rfl hd rfl hy kk
theorem irem (O : On l Z ws R own nm bytes maxL ret C T h cells slots) {x y r : Int32} (hd : decode bytes pc = .ok (.irem, 1)) (hy : y ≠ 0) (hr : x % y = r) (hq : pc + 1 = q)
    (K : Go C ws Q k n (T.setTop (mkF C.m q Ls (.int r :: st)))) : Go C ws Q k n (T.setTop (mkF C.m pc Ls (.int y :: .int x :: st))) := by
  obtain ⟨⟨hx, -, rfl, -⟩, ⟨_, X, -⟩, -⟩ := O; subst hq hr; rw [← irem_eq_mod] at K
  exact K.of fun _ kk => XS.irem X.here hx rfl hd rfl hy kk
theorem ladd (O : On l Z ws R own nm bytes maxL ret C T h cells slots) {x y r : Int64} (hd : decode bytes pc = .ok (.ladd, 1)) (hr : x + y = r) (hq : pc + 1 = q)
    (K : Go C ws Q k n (T.setTop (mkF C.m q Ls (.long r :: st)))) : Go C ws Q k n (T.setTop (mkF C.m pc Ls (.long y :: .long x :: st))) := by
  obtain ⟨⟨hx, -, rfl, -⟩, ⟨_, X, -⟩, -⟩ := O; subst hq hr
  exact K.of fun _ kk => XS.ladd X.here hx rfl hd rfl kk
theorem lsub (O : On l Z ws R own nm bytes maxL ret C T h cells slots) {x y r : Int64} (hd : decode bytes pc = .ok (.lsub, 1)) (hr : x - y = r) (hq : pc + 1 = q)
    (K : Go C ws Q k n (T.setTop (mkF C.m q Ls (.long r :: st)))) : Go C ws Q k n (T.setTop (mkF C.m pc Ls (.long y :: .long x :: st))) := by
  obtain ⟨⟨hx, -, rfl, -⟩, ⟨_, X, -⟩, -⟩ := O; subst hq hr
  exact K.of fun _ kk => XS.lsub X.here hx rfl hd rfl kk
theorem lmul (O : On l Z ws R own nm bytes maxL ret C T h cells slots) {x y r : Int64} (hd : decode bytes pc = .ok (.lmul, 1)) (hr : x * y = r) (hq : pc + 1 = q)
    (K : Go C ws Q k n (T.setTop (mkF C.m q Ls (.long r :: st)))) : Go C ws Q k n (T.setTop (mkF C.m pc Ls (.long y :: .long x :: st))) := by
  obtain ⟨⟨hx, -, rfl, -⟩, ⟨_, X, -⟩, -⟩ := O; subst hq hr
  exact K.of fun _ kk => XS.lmul X.here hx rfl hd rfl kk
theorem land (O : On l Z ws R own nm bytes maxL ret C T h cells slots) {x y r : Int64} (hd : decode bytes pc = .ok (.land, 1)) (hr : x &&& y = r) (hq : pc + 1 = q)
    (K : Go C ws Q k n (T.setTop (mkF C.m q Ls (.long r :: st)))) : Go C ws Q k n (T.setTop (mkF C.m pc Ls (.long y :: .long x :: st))) := by
  obtain ⟨⟨hx, -, rfl, -⟩, ⟨_, X, -⟩, -⟩ := O; subst hq hr
  exact K.of fun _ kk => XS.land X.here hx rfl hd rfl kk
theorem lor (O : On l Z ws R own nm bytes maxL ret C T h cells slots) {x y r : Int64} (hd : decode bytes pc = .ok (.lor, 1)) (hr : x ||| y = r) (hq : pc + 1 = q)
    (K : Go C ws Q k n (T.setTop (mkF C.m q Ls (.long r :: st)))) : Go C ws Q k n (T.setTop (mkF C.m pc Ls (.long y :: .long x :: st))) := by
  obtain ⟨⟨hx, -, rfl, -⟩, ⟨_, X, -⟩, -⟩ := O; subst hq hr
  exact K.of fun _ kk => XS.lor X.here hx rfl hd rfl kk
theorem lxor (O : On l Z ws R own nm bytes maxL ret C T h cells slots) {x y r : Int64} (hd : decode bytes pc = .ok (.lxor, 1)) (hr : x ^^^ y = r) (hq : pc + 1 = q)
    (K : Go C ws Q k n (T.setTop (mkF C.m q Ls (.long r :: st)))) : Go C ws Q k n (T.setTop (mkF C.m pc Ls (.long y :: .long x :: st))) := by
  obtain ⟨⟨hx, -, rfl, -⟩, ⟨_, X, -⟩, -⟩ := O; subst hq hr
  exact K.of fun _ kk => XS.lxor X.here hx rfl hd rfl kk
theorem ldiv (O : On l Z ws R own nm bytes maxL ret C T h cells slots) {x y r : Int64} (hd : decode bytes pc = .ok (.ldiv, 1)) (hy : y ≠ 0) (hr : x / y = r) (hq : pc + 1 = q)
    (K : Go C ws Q k n (T.setTop (mkF C.m q Ls (.long r :: st)))) : Go C ws Q k n (T.setTop (mkF C.m pc Ls (.long y :: .long x :: st))) := by
  obtain ⟨⟨hx, -, rfl, -⟩, ⟨_, X, -⟩, -⟩ := O; subst hq hr
  exact K.of fun _ kk => XS.ldiv X.here hx rfl hd rfl hy kk
theorem lrem (O : On l Z ws R own nm bytes maxL ret C T h cells slots) {x y r : Int64} (hd : decode bytes pc = .ok (.lrem, 1)) (hy : y ≠ 0) (hr : x % y = r) (hq : pc + 1 = q)
    (K : Go C ws Q k n (T.setTop (mkF C.m q Ls (.long r :: st)))) : Go C ws Q k n (T.setTop (mkF C.m pc Ls (.long y :: .long x :: st))) := by
  obtain ⟨⟨hx, -, rfl, -⟩, ⟨_, X, -⟩, -⟩ := O; subst hq hr; rw [← lrem_mod] at K
  exact K.of fun _ kk => XS.lrem X.here hx rfl hd rfl hy kk
theorem lshl (O : On l Z ws R own nm bytes maxL ret C T h cells slots) {x r : Int64} {y : Int32} (hd : decode bytes pc = .ok (.lshl, 1)) (hr : x <<< (y &&& 0x3f).toInt64 = r) (hq : pc + 1 = q)
    (K : Go C ws Q k n (T.setTop (mkF C.m q Ls (.long r :: st)))) : Go C ws Q k n (T.setTop (mkF C.m pc Ls (.int y :: .long x :: st))) := by
  obtain ⟨⟨hx, -, rfl, -⟩, ⟨_, X, -⟩, -⟩ := O; subst hq hr
  exact K.of fun _ kk => XS.lshl X.here hx rfl hd rfl kk
theorem lshr (O : On l Z ws R own nm bytes maxL ret C T h cells slots) {x r : Int64} {y : Int32} (hd : decode bytes pc = .ok (.lshr, 1)) (hr : x >>> (y &&& 0x3f).toInt64 = r) (hq : pc + 1 = q)
    (K : Go C ws Q k n (T.setTop (mkF C.m q Ls (.long r :: st)))) : Go C ws Q k n (T.setTop (mkF C.m pc Ls (.int y :: .long x :: st))) := by
  obtain ⟨⟨hx, -, rfl, -⟩, ⟨_, X, -⟩, -⟩ := O; subst hq hr
  exact K.of fun _ kk => XS.lshr X.here hx rfl hd rfl kk
theorem lushr (O : On l Z ws R own nm bytes maxL ret C T h cells slots) {x r : Int64} {y : Int32} (hd : decode bytes pc = .ok (.lushr, 1)) (hr : (x.toUInt64 >>> (y &&& 0x3f).toInt64.toUInt64).toInt64 = r) (hq : pc + 1 = q)
    (K : Go C ws Q k n (T.setTop (mkF C.m q Ls (.long r :: st)))) : Go C ws Q k n (T.setTop (mkF C.m pc Ls (.int y :: .long x :: st))) := by
  obtain ⟨⟨hx, -, rfl, -⟩, ⟨_, X, -⟩, -⟩ := O; subst hq hr
  exact K.of fun _ kk => XS.lushr X.here hx rfl hd rfl kk
theorem ineg (O : On l Z ws R own nm bytes maxL ret C T h cells slots) {x : Int32} {r : Int32} (hd : decode bytes pc = .ok (.ineg, 1)) (hr : -x = r) (hq : pc + 1 = q)
    (K : Go C ws Q k n (T.setTop (mkF C.m q Ls (.int r :: st)))) : Go C ws Q k n (T.setTop (mkF C.m pc Ls (.int x :: st))) := by
  obtain ⟨⟨hx, -, rfl, -⟩, ⟨_, X, -⟩, -⟩ := O; subst hq hr
  exact K.of fun _ kk => XS.ineg X.here hx rfl hd rfl kk
theorem lneg (O : On l Z ws R own nm bytes maxL ret C T h cells slots) {x : Int64} {r : Int64} (hd : decode bytes pc = .ok (.lneg, 1)) (hr : -x = r) (hq : pc + 1 = q)
    (K : Go C ws Q k n (T.setTop (mkF C.m q Ls (.long r :: st)))) : Go C ws Q k n (T.setTop (mkF C.m pc Ls (.long x :: st))) := by
  obtain ⟨⟨hx, -, rfl, -⟩, ⟨_, X, -⟩, -⟩ := O; subst hq hr
  exact K.of fun _ kk => XS.lneg X.here hx rfl hd rfl kk
theorem i2l (O : On l Z ws R own nm bytes maxL ret C T h cells slots) {x : Int32} {r : Int64} (hd : decode bytes pc = .ok (.i2l, 1)) (hr : x.toInt64 = r) (hq : pc + 1 = q)
    (K : Go C ws Q k n (T.setTop (mkF C.m q Ls (.long r :: st)))) : Go C ws Q k n (T.setTop (mkF C.m pc Ls (.int x :: st))) := by
  obtain ⟨⟨hx, -, rfl, -⟩, ⟨_, X, -⟩, -⟩ := O; subst hq hr
  exact K.of fun _ kk => XS.i2l X.here hx rfl hd rfl kk
theorem l2i (O : On l Z ws R own nm bytes maxL ret C T h cells slots) {x : Int64} {r : Int32} (hd : decode bytes pc = .ok (.l2i, 1)) (hr : x.toInt32 = r) (hq : pc + 1 = q)
    (K : Go C ws Q k n (T.setTop (mkF C.m q Ls (.int r :: st)))) : Go C ws Q k n (T.setTop (mkF C.m pc Ls (.long x :: st))) := by
  obtain ⟨⟨hx, -, rfl, -⟩, ⟨_, X, -⟩, -⟩ := O; subst hq hr
  exact K.of fun _ kk => XS.l2i X.here hx rfl hd rfl kk
theorem i2b (O : On l Z ws R own nm bytes maxL ret C T h cells slots) {x : Int32} {r : Int32} (hd : decode bytes pc = .ok (.i2b, 1)) (hr : x.toInt8.toInt32 = r) (hq : pc + 1 = q)
    (K : Go C ws Q k n (T.setTop (mkF C.m q Ls (.int r :: st)))) : Go C ws Q k n (T.setTop (mkF C.m pc Ls (.int x :: st))) := by
  obtain ⟨⟨hx, -, rfl, -⟩, ⟨_, X, -⟩, -⟩ := O; subst hq hr
  exact K.of fun _ kk => XS.i2b X.here hx rfl hd rfl kk
theorem i2c (O : On l Z ws R own nm bytes maxL ret C T h cells slots) {x : Int32} {r : Int32} (hd : decode bytes pc = .ok (.i2c, 1)) (hr : x.toUInt32.toUInt16.toUInt32.toInt32 = r) (hq : pc + 1 = q)
    (K : Go C ws Q k n (T.setTop (mkF C.m q Ls (.int r :: st)))) : Go C ws Q k n (T.setTop (mkF C.m pc Ls (.int x :: st))) := by
  obtain ⟨⟨hx, -, rfl, -⟩, ⟨_, X, -⟩, -⟩ := O; subst hq hr
  exact K.of fun _ kk => XS.i2c X.here hx rfl hd rfl kk
theorem i2s (O : On l Z ws R own nm bytes maxL ret C T h cells slots) {x : Int32} {r : Int32} (hd : decode bytes pc = .ok (.i2s, 1)) (hr : x.toInt16.toInt32 = r) (hq : pc + 1 = q)
    (K : Go C ws Q k n (T.setTop (mkF C.m q Ls (.int r :: st)))) : Go C ws Q k n (T.setTop (mkF C.m pc Ls (.int x :: st))) := by
  obtain ⟨⟨hx, -, rfl, -⟩, ⟨_, X, -⟩, -⟩ := O; subst hq hr
  exact K.of fun _ kk => XS.i2s X.here hx rfl hd rfl kk
theorem lcmp (O : On l Z ws R own nm bytes maxL ret C T h cells slots) {x y : Int64} {r : Int32} (hd : decode bytes pc = .ok (.lcmp, 1)) (hr : lcmpW x y = r) (hq : pc + 1 = q)
    (K : Go C ws Q k n (T.setTop (mkF C.m q Ls (.int r :: st)))) : Go C ws Q k n (T.setTop (mkF C.m pc Ls (.long y :: .long x :: st))) := by
  obtain ⟨⟨hx, -, rfl, -⟩, ⟨_, X, -⟩, -⟩ := O; subst hq hr
  exact K.of fun _ kk => XS.lcmp X.here hx rfl hd rfl kk
theorem iinc (O : On l Z ws R own nm bytes maxL ret C T h cells slots) {i : Nat} {cst : Int} {x : Int32} (hd : decode bytes pc = .ok (.iinc i cst, 3)) (hl : Ls[i]? = some (.val (.int x))) (hl' : storeLocals Ls i (.int (x + Int32.ofInt cst)) = some L') (hq : pc + 3 = q)
    (K : Go C ws Q k n (T.setTop (mkF C.m q L' (st)))) : Go C ws Q k n (T.setTop (mkF C.m pc Ls (st))) := by
  obtain ⟨⟨hx, -, rfl, -⟩, ⟨_, X, -⟩, -⟩ := O; subst hq
  exact K.of fun _ kk => XS.iinc X.here hx rfl hd hl hl' kk
theorem dup (O : On l Z ws R own nm bytes maxL ret C T h cells slots) {v : Value} (hd : decode bytes pc = .ok (.dup, 1)) (hc : v.category = 1) (hq : pc + 1 = q)
    (K : Go C ws Q k n (T.setTop (mkF C.m q Ls (v :: v :: st)))) : Go C ws Q k n (T.setTop (mkF C.m pc Ls (v :: st))) := by
  obtain ⟨⟨hx, -, rfl, -⟩, ⟨_, X, -⟩, -⟩ := O; subst hq
  exact K.of fun _ kk => XS.dup X.here hx rfl hd rfl hc kk
theorem pop (O : On l Z ws R own nm bytes maxL ret C T h cells slots) {v : Value} (hd : decode bytes pc = .ok (.pop, 1)) (hc : v.category = 1) (hq : pc + 1 = q)
    (K : Go C ws Q k n (T.setTop (mkF C.m q Ls (st)))) : Go C ws Q k n (T.setTop (mkF C.m pc Ls (v :: st))) := by
  obtain ⟨⟨hx, -, rfl, -⟩, ⟨_, X, -⟩, -⟩ := O; subst hq
  exact K.of fun _ kk => XS.pop X.here hx rfl hd rfl hc kk
theorem dup_x1 (O : On l Z ws R own nm bytes maxL ret C T h cells slots) {v w : Value} (hd : decode bytes pc = .ok (.dup_x1, 1)) (hc : v.category = 1) (hc' : w.category = 1) (hq : pc + 1 = q)
    (K : Go C ws Q k n (T.setTop (mkF C.m q Ls (v :: w :: v :: st)))) : Go C ws Q k n (T.setTop (mkF C.m pc Ls (v :: w :: st))) := by
  obtain ⟨⟨hx, -, rfl, -⟩, ⟨_, X, -⟩, -⟩ := O; subst hq
  exact K.of fun _ kk => XS.dupX1 X.here hx rfl hd rfl hc hc' kk
theorem dup2 (O : On l Z ws R own nm bytes maxL ret C T h cells slots) {v w : Value} (hd : decode bytes pc = .ok (.dup2, 1)) (hc : v.category = 1) (hc' : w.category = 1) (hq : pc + 1 = q)
    (K : Go C ws Q k n (T.setTop (mkF C.m q Ls (v :: w :: v :: w :: st)))) : Go C ws Q k n (T.setTop (mkF C.m pc Ls (v :: w :: st))) := by
  obtain ⟨⟨hx, -, rfl, -⟩, ⟨_, X, -⟩, -⟩ := O; subst hq
  exact K.of fun _ kk => XT.dup2 X.here hx rfl hd rfl hc hc' kk
theorem dup2L (O : On l Z ws R own nm bytes maxL ret C T h cells slots) {v : Int64} (hd : decode bytes pc = .ok (.dup2, 1))  (hq : pc + 1 = q)
    (K : Go C ws Q k n (T.setTop (mkF C.m q Ls (.long v :: .long v :: st)))) : Go C ws Q k n (T.setTop (mkF C.m pc Ls (.long v :: st))) := by
  obtain ⟨⟨hx, -, rfl, -⟩, ⟨_, X, -⟩, -⟩ := O; subst hq
  exact K.of fun _ kk => XT.dup2L X.here hx rfl hd rfl kk
theorem goto (O : On l Z ws R own nm bytes maxL ret C T h cells slots)  {o : Int} (hd : decode bytes pc = .ok (.goto o, 3))  (ho : 0 ≤ (pc : Int) + o) (hq : ((pc : Int) + o).toNat = q)
    (K : Go C ws Q k n (T.setTop (mkF C.m q Ls st))) : Go C ws Q k n (T.setTop (mkF C.m pc Ls (st))) := by
  obtain ⟨⟨hx, -, rfl, -⟩, ⟨_, X, -⟩, -⟩ := O
  exact K.of fun _ kk => XS.goto X.here hx rfl (pc0 := pc) (pc' := q) rfl hd  ho hq kk
theorem ifYes (O : On l Z ws R own nm bytes maxL ret C T h cells slots) {cd : ClassFile.Cond} {x : Int32} {o : Int} (hd : decode bytes pc = .ok (.ifCond cd o, 3)) (hc : ifCond.holds cd x = true) (ho : 0 ≤ (pc : Int) + o) (hq : ((pc : Int) + o).toNat = q)
    (K : Go C ws Q k n (T.setTop (mkF C.m q Ls st))) : Go C ws Q k n (T.setTop (mkF C.m pc Ls (.int x :: st))) := by
  obtain ⟨⟨hx, -, rfl, -⟩, ⟨_, X, -⟩, -⟩ := O
  exact K.of fun _ kk => XS.ifYes X.here hx rfl (pc0 := pc) (pc' := q) rfl hd rfl hc ho hq kk
theorem icmpYes (O : On l Z ws R own nm bytes maxL ret C T h cells slots) {cd : ClassFile.Cond} {x y : Int32} {o : Int} (hd : decode bytes pc = .ok (.if_icmp cd o, 3)) (hc : if_icmp.holds cd x y = true) (ho : 0 ≤ (pc : Int) + o) (hq : ((pc : Int) + o).toNat = q)
    (K : Go C ws Q k n (T.setTop (mkF C.m q Ls st))) : Go C ws Q k n (T.setTop (mkF C.m pc Ls (.int y :: .int x :: st))) := by
  obtain ⟨⟨hx, -, rfl, -⟩, ⟨_, X, -⟩, -⟩ := O
  exact K.of fun _ kk => XS.icmpYes X.here hx rfl (pc0 := pc) (pc' := q) rfl hd rfl hc ho hq kk
theorem ifnullYes (O : On l Z ws R own nm bytes maxL ret C T h cells slots)  {o : Int} (hd : decode bytes pc = .ok (.ifnull o, 3))  (ho : 0 ≤ (pc : Int) + o) (hq : ((pc : Int) + o).toNat = q)
    (K : Go C ws Q k n (T.setTop (mkF C.m q Ls st))) : Go C ws Q k n (T.setTop (mkF C.m pc Ls (.null :: st))) := by
  obtain ⟨⟨hx, -, rfl, -⟩, ⟨_, X, -⟩, -⟩ := O
  exact K.of fun _ kk => XS.ifnullYes X.here hx rfl (pc0 := pc) (pc' := q) rfl hd rfl ho hq kk
theorem ifnonnullYes (O : On l Z ws R own nm bytes maxL ret C T h cells slots) {b : Addr} {o : Int} (hd : decode bytes pc = .ok (.ifnonnull o, 3))  (ho : 0 ≤ (pc : Int) + o) (hq : ((pc : Int) + o).toNat = q)
    (K : Go C ws Q k n (T.setTop (mkF C.m q Ls st))) : Go C ws Q k n (T.setTop (mkF C.m pc Ls (.ref b :: st))) := by
  obtain ⟨⟨hx, -, rfl, -⟩, ⟨_, X, -⟩, -⟩ := O
  exact K.of fun _ kk => XS.ifnonnullYes X.here hx rfl (pc0 := pc) (pc' := q) rfl hd rfl ho hq kk
theorem ifNo (O : On l Z ws R own nm bytes maxL ret C T h cells slots) {cd : ClassFile.Cond} {x : Int32} {o : Int} (hd : decode bytes pc = .ok (.ifCond cd o, 3)) (hc : ifCond.holds cd x = false) (hq : pc + 3 = q)
    (K : Go C ws Q k n (T.setTop (mkF C.m q Ls (st)))) : Go C ws Q k n (T.setTop (mkF C.m pc Ls (.int x :: st))) := by
  obtain ⟨⟨hx, -, rfl, -⟩, ⟨_, X, -⟩, -⟩ := O; subst hq
  exact K.of fun _ kk => XS.ifNo X.here hx rfl hd rfl hc kk
theorem icmpNo (O : On l Z ws R own nm bytes maxL ret C T h cells slots) {cd : ClassFile.Cond} {x y : Int32} {o : Int} (hd : decode bytes pc = .ok (.if_icmp cd o, 3)) (hc : if_icmp.holds cd x y = false) (hq : pc + 3 = q)
    (K : Go C ws Q k n (T.setTop (mkF C.m q Ls (st)))) : Go C ws Q k n (T.setTop (mkF C.m pc Ls (.int y :: .int x :: st))) := by
  obtain ⟨⟨hx, -, rfl, -⟩, ⟨_, X, -⟩, -⟩ := O; subst hq
  exact K.of fun _ kk => XS.icmpNo X.here hx rfl hd rfl hc kk
theorem ifnullNo (O : On l Z ws R own nm bytes maxL ret C T h cells slots) {b : Addr} {o : Int} (hd : decode bytes pc = .ok (.ifnull o, 3))  (hq : pc + 3 = q)
    (K : Go C ws Q k n (T.setTop (mkF C.m q Ls (st)))) : Go C ws Q k n (T.setTop (mkF C.m pc Ls (.ref b :: st))) := by
  obtain ⟨⟨hx, -, rfl, -⟩, ⟨_, X, -⟩, -⟩ := O; subst hq
  exact K.of fun _ kk => XS.ifnullNo X.here hx rfl hd rfl kk
theorem ifnonnullNo (O : On l Z ws R own nm bytes maxL ret C T h cells slots) {o : Int} (hd : decode bytes pc = .ok (.ifnonnull o, 3))  (hq : pc + 3 = q)
    (K : Go C ws Q k n (T.setTop (mkF C.m q Ls (st)))) : Go C ws Q k n (T.setTop (mkF C.m pc Ls (.null :: st))) := by
  obtain ⟨⟨hx, -, rfl, -⟩, ⟨_, X, -⟩, -⟩ := O; subst hq
  exact K.of fun _ kk => XS.ifnonnullNo X.here hx rfl hd rfl kk
theorem acmp (O : On l Z ws R own nm bytes maxL ret C T h cells slots) {cd : ACond} {x y : Value} {o : Int} {same : Bool} (hd : decode bytes pc = .ok (.if_acmp cd o, 3)) (h1 : x.isRef = true) (h2 : y.isRef = true) (hs : decide (x = y) = same) (ho : 0 ≤ (pc : Int) + o) (hq : q = if acV cd same = true then ((pc : Int) + o).toNat else pc + 3)
    (K : Go C ws Q k n (T.setTop (mkF C.m q Ls st))) : Go C ws Q k n (T.setTop (mkF C.m pc Ls (y :: x :: st))) := by
  obtain ⟨⟨hx, -, rfl, -⟩, ⟨_, X, -⟩, -⟩ := O
  exact K.of fun _ kk => Jvm.RoadKit.acmp (g := mkF C.m pc Ls (y :: x :: st)) X hx rfl h1 h2 (pc0 := pc) (pc' := q) rfl hd rfl hs ho hq kk
theorem ldcI (O : On l Z ws R own nm bytes maxL ret C T h cells slots) {i : Nat} {v : Int32} (hd : decode bytes pc = .ok (.ldc i, 2)) (w : (Cond.constant own i v).before a0 Z = true) (hq : pc + 2 = q)
    (K : Go C ws Q k n (T.setTop (mkF C.m q Ls (.int v :: st)))) : Go C ws Q k n (T.setTop (mkF C.m pc Ls st)) := by
  obtain ⟨⟨hx, hZ, rfl, -, hown, -⟩, ⟨_, X, -⟩, -⟩ := O; subst hq
  exact K.of fun _ kk => X.ldcInt hx hown (mvT hZ w) (g := mkF C.m pc Ls st) rfl hd _ kk
theorem ldcwI (O : On l Z ws R own nm bytes maxL ret C T h cells slots) {i : Nat} {v : Int32} (hd : decode bytes pc = .ok (.ldc_w i, 3)) (w : (Cond.constant own i v).before a0 Z = true) (hq : pc + 3 = q)
    (K : Go C ws Q k n (T.setTop (mkF C.m q Ls (.int v :: st)))) : Go C ws Q k n (T.setTop (mkF C.m pc Ls st)) := by
  obtain ⟨⟨hx, hZ, rfl, -, hown, -⟩, ⟨_, X, -⟩, -⟩ := O; subst hq
  exact K.of fun _ kk => X.ldcwInt hx hown (mvT hZ w) (g := mkF C.m pc Ls st) rfl hd _ kk
theorem ldcL (O : On l Z ws R own nm bytes maxL ret C T h cells slots) {i : Nat} {v : Int64} (hd : decode bytes pc = .ok (.ldc2_w i, 3)) (w : (Cond.constantLong own i v).before a0 Z = true) (hq : pc + 3 = q)
    (K : Go C ws Q k n (T.setTop (mkF C.m q Ls (.long v :: st)))) : Go C ws Q k n (T.setTop (mkF C.m pc Ls st)) := by
  obtain ⟨⟨hx, hZ, rfl, -, hown, -⟩, ⟨_, X, -⟩, -⟩ := O; subst hq
  exact K.of fun _ kk => X.ldc2Long hx hown (mvT hZ w) (g := mkF C.m pc Ls st) rfl hd _ kk
theorem getF (O : On l Z ws R own nm bytes maxL ret C T h cells slots) {i : Nat} {R0 D f d host : String} {a : Addr} {v : Value} (hd : decode bytes pc = .ok (.getfield i, 3)) (w : (Cond.fieldLink own i R0 f d).before a0 Z = true ∨ (Cond.fieldLinkNest own i R0 f d host).before a0 Z = true) (via : Via Z R0 D f d) (F : Fld Z h a D f d v) (hq : pc + 3 = q)
    (K : ∀ T', On l Z ws R own nm bytes maxL ret C T' h cells slots → Go C ws Q k n (T'.setTop (mkF C.m q Ls (v :: st)))) : Go C ws Q k n (T.setTop (mkF C.m pc Ls (.ref a :: st))) := by
  obtain ⟨⟨hx, hZ, rfl, r1, hown, r2⟩, ⟨_, X, N⟩, eT⟩ := O; subst hq
  obtain ⟨T', X', e', stp⟩ := Jvm.RoadKit.getF X hx hZ hown w via eT F (g := mkF C.m pc Ls (.ref a :: st)) rfl rfl hd
  exact (K T' ⟨⟨hx, hZ, rfl, r1, hown, r2⟩, ⟨_, X', N⟩, e'⟩).of fun _ kk => stp _ kk
theorem getS (O : On l Z ws R own nm bytes maxL ret C T h cells slots) {i : Nat} {D f d : String} {v : Value} (hd : decode bytes pc = .ok (.getstatic i, 3)) (w : (Cond.fieldLink own i D f d).before a0 Z = true) (F : Sta Z h D f d v) (hq : pc + 3 = q)
    (K : ∀ T', On l Z ws R own nm bytes maxL ret C T' h cells slots → Go C ws Q k n (T'.setTop (mkF C.m q Ls (v :: st)))) : Go C ws Q k n (T.setTop (mkF C.m pc Ls st)) := by
  obtain ⟨⟨hx, hZ, rfl, r1, hown, r2⟩, ⟨_, X, N⟩, eT⟩ := O; subst hq
  obtain ⟨T', X', e', stp⟩ := Jvm.RoadKit.getS (host := "") X hx hZ hown w Via.refl eT F (g := mkF C.m pc Ls st) rfl hd
  exact (K T' ⟨⟨hx, hZ, rfl, r1, hown, r2⟩, ⟨_, X', N⟩, e'⟩).of fun _ kk => stp _ kk
theorem putF (O : On l Z ws R own nm bytes maxL ret C T h cells slots) {i kk : Nat} {R0 D f d host K0 : String} {ty : FieldType} {a : Addr} {v old : Value} (hd : decode bytes pc = .ok (.putfield i, 3)) (w : (Cond.fieldLink own i R0 f d).before a0 Z = true ∨ (Cond.fieldLinkNest own i R0 f d host).before a0 Z = true) (via : Via Z R0 D f d)
    (F : Fld Z h a D f d old) (E : Exa Z h a K0) (L : (Cond.lays K0 D f d).before a0 Z = true ∨ ((Cond.laysFinal K0 D f d).before a0 Z = true ∧ own = D ∧ nm = "<init>")) (wi : (Cond.instantiable K0 kk).before a0 Z = true) (hty : parseFieldDescriptor d = some ty) (hn : narrow ty v = v) (hf : fits ty v = true) (ha : a ∈ ws ∨ C.s.heap.size ≤ a) (hq : pc + 3 = q)
    (K : ∀ T' h', On l Z ws R own nm bytes maxL ret C T' h' cells slots → Wr h h' a (Jvm.RoadKit.slotOf Z D f d) v → Go C ws Q k n (T'.setTop (mkF C.m q Ls st))) : Go C ws Q k n (T.setTop (mkF C.m pc Ls (v :: .ref a :: st))) := by
  obtain ⟨⟨hx, hZ, rfl, r1, hown, hnm, r2⟩, ⟨_, X, N⟩, eT⟩ := O; subst hq
  obtain ⟨T', h', X', e', W, stp⟩ := Jvm.RoadKit.putF X hx hZ hown w via eT F E (L.imp id fun q => ⟨q.1, q.2.1, hnm.trans q.2.2⟩) wi hty hn hf (g := mkF C.m pc Ls (v :: .ref a :: st)) rfl rfl hd
  exact (K T' h' ⟨⟨hx, hZ, rfl, r1, hown, hnm, r2⟩, ⟨_, X', N.snoc ha⟩, e'⟩ W).of fun _ kk => stp _ kk
theorem newO (O : On l Z ws R own nm bytes maxL ret C T h cells slots) {i ns c2 s2 : Nat} {K0 : String} (hd : decode bytes pc = .ok (.new i, 3)) (w : (Cond.classLink own i K0).before a0 Z = true) (wi : (Cond.instantiable K0 ns).before a0 Z = true) (wz : (Cond.initialized K0).before a0 Z = true) (hc2 : cells + 1 = c2) (hs2 : slots + ns = s2) (hc : c2 ≤ R.cells) (hl : s2 ≤ R.slots) (hq : pc + 3 = q)
    (K : ∀ a T' h', a = h.size → C.s.heap.size ≤ a → On l Z ws R own nm bytes maxL ret C T' h' c2 s2 → Ext h h' → Exa Z h' a K0 → (∀ {O nm d : String} {ty : FieldType}, Laid Z a0 K0 O nm d → parseFieldDescriptor d = some ty → Fld Z h' a O nm d (defaultValue ty)) → Go C ws Q k n (T'.setTop (mkF C.m q Ls (.ref a :: st)))) : Go C ws Q k n (T.setTop (mkF C.m pc Ls st)) := by
  obtain ⟨⟨hx, hZ, rfl, r1, hown, r2⟩, ⟨_, X, N⟩, eT⟩ := O; subst hq hc2 hs2
  obtain ⟨T', h', X', e', E, A, D, -, stp⟩ := Jvm.RoadKit.newO X hx hZ hown w wi wz eT (g := mkF C.m pc Ls st) rfl hd hc hl
  exact (K _ T' h' rfl (eT ▸ X.same.2.1) ⟨⟨hx, hZ, rfl, r1, hown, r2⟩, ⟨_, X', N⟩, e'⟩ E A D).of fun _ kk => stp _ kk
theorem newP (O : On l Z ws R own nm bytes maxL ret C T h cells slots) {aty : ArrayType} {c2 s2 : Nat} (hd : decode bytes pc = .ok (.newarray aty, 2)) (w : (Cond.arrayClass (newarray.typeOf aty)).before a0 Z = true) {z : Int32} (hn : ¬ z < 0) {cap : Nat} (hcap : z.toNatClampNeg ≤ cap) (hb : cap * 8 ≤ 536870912) (hc2 : cells + 1 = c2) (hs2 : slots + cap = s2) (hc : c2 ≤ R.cells) (hl : s2 ≤ R.slots) (hq : pc + 2 = q)
    (K : ∀ a T' h' cA, a = h.size → C.s.heap.size ≤ a → On l Z ws R own nm bytes maxL ret C T' h' c2 s2 → Ext h h' → Arr Z h' a (newA cA (newarray.typeOf aty) z) (newarray.typeOf aty) → Go C ws Q k n (T'.setTop (mkF C.m q Ls (.ref a :: st)))) : Go C ws Q k n (T.setTop (mkF C.m pc Ls (.int z :: st))) := by
  obtain ⟨⟨hx, hZ, rfl, r1, hown, r2⟩, ⟨_, X, N⟩, eT⟩ := O; subst hq hc2 hs2
  obtain ⟨T', h', cA, X', e', E, A, stp⟩ := Jvm.RoadKit.newP X hx hZ w eT (g := mkF C.m pc Ls (.int z :: st)) rfl hd rfl hn hcap hb hc hl
  exact (K _ T' h' cA rfl (eT ▸ X.same.2.1) ⟨⟨hx, hZ, rfl, r1, hown, r2⟩, ⟨_, X', N⟩, e'⟩ E A).of fun _ kk => stp _ kk
theorem initO (O : On l Z ws R own nm bytes maxL ret C T h cells slots) {i : Nat} {a : Addr} (hd : decode bytes pc = .ok (.invokespecial i, 3)) (w1 : (Cond.methodLink own i Lib.objectInit).before a0 Z = true) (w2 : (Cond.instanceMethod Lib.objectInit).before a0 Z = true) (w3 : (Cond.code Lib.objectInit ⟨#[0xb1]⟩ 1 none).before a0 Z = true) (hsz : Ls.size = maxL) (hf : 1 ≤ R.frames) {W : Nat} (hW : (st.map fun v => v.category).sum ≤ W) (hl : W + 12 ≤ R.locals) (hq : pc + 3 = q)
    (K : ∀ T', On l Z ws R own nm bytes maxL ret C T' h cells slots → Go C ws Q k n (T'.setTop (mkF C.m q Ls st))) : Go C ws Q k n (T.setTop (mkF C.m pc Ls (.ref a :: st))) := by
  obtain ⟨⟨hx, hZ, rfl, r1, hown, r2⟩, ⟨_, X, N⟩, eT⟩ := O; subst hq
  obtain ⟨T', X', e', stp⟩ := Jvm.RoadKit.initO X hx hZ hown w1 w2 w3 eT (g := mkF C.m pc Ls (.ref a :: st)) rfl (hsz.trans r1.symm) rfl hd hf (W := W) (by show 2 * 0 + _ ≤ _; rw [Nat.mul_zero, Nat.zero_add]; exact hW) hl
  exact (K T' ⟨⟨hx, hZ, rfl, r1, hown, r2⟩, ⟨_, X', N⟩, e'⟩).of fun _ kk => stp _ kk
theorem iaload (O : On l Z ws R own nm bytes maxL ret C T h cells slots) {a : Addr} {cl : Cell} {j : Int32} {v : Value} (hd : decode bytes pc = .ok (.iaload, 1)) (A : Arr Z h a cl .int) (hin : ¬ (j < 0 ∨ cl.slots.size ≤ j.toNatClampNeg)) (hv : cl.slots[j.toNatClampNeg]? = some v) (hq : pc + 1 = q)
    (K : Go C ws Q k n (T.setTop (mkF C.m q Ls (v :: st)))) : Go C ws Q k n (T.setTop (mkF C.m pc Ls (.int j :: .ref a :: st))) := by
  obtain ⟨⟨hx, hZ, rfl, -⟩, ⟨_, X, N⟩, eT⟩ := O; subst hq
  exact K.of fun _ kk => X.iaload hx (by rw [eT]; exact A.1) (State.isArrayOf_alike hZ.alike A.2.1) A.2.2 hin hv (g := mkF C.m pc Ls (.int j :: .ref a :: st)) rfl rfl hd _ kk
theorem laload (O : On l Z ws R own nm bytes maxL ret C T h cells slots) {a : Addr} {cl : Cell} {j : Int32} {v : Value} (hd : decode bytes pc = .ok (.laload, 1)) (A : Arr Z h a cl .long) (hin : ¬ (j < 0 ∨ cl.slots.size ≤ j.toNatClampNeg)) (hv : cl.slots[j.toNatClampNeg]? = some v) (hq : pc + 1 = q)
    (K : Go C ws Q k n (T.setTop (mkF C.m q Ls (v :: st)))) : Go C ws Q k n (T.setTop (mkF C.m pc Ls (.int j :: .ref a :: st))) := by
  obtain ⟨⟨hx, hZ, rfl, -⟩, ⟨_, X, N⟩, eT⟩ := O; subst hq
  exact K.of fun _ kk => X.laload hx (by rw [eT]; exact A.1) (State.isArrayOf_alike hZ.alike A.2.1) A.2.2 hin hv (g := mkF C.m pc Ls (.int j :: .ref a :: st)) rfl rfl hd _ kk
theorem baload (O : On l Z ws R own nm bytes maxL ret C T h cells slots) {a : Addr} {cl : Cell} {j : Int32} {v : Value} (hd : decode bytes pc = .ok (.baload, 1)) (A : Arr Z h a cl .byte) (hin : ¬ (j < 0 ∨ cl.slots.size ≤ j.toNatClampNeg)) (hv : cl.slots[j.toNatClampNeg]? = some v) (hq : pc + 1 = q)
    (K : Go C ws Q k n (T.setTop (mkF C.m q Ls (v :: st)))) : Go C ws Q k n (T.setTop (mkF C.m pc Ls (.int j :: .ref a :: st))) := by
  obtain ⟨⟨hx, hZ, rfl, -⟩, ⟨_, X, N⟩, eT⟩ := O; subst hq
  exact K.of fun _ kk => X.baloadBytes hx (by rw [eT]; exact A.1) (State.isArrayOf_alike hZ.alike A.2.1) A.2.2 hin hv (g := mkF C.m pc Ls (.int j :: .ref a :: st)) rfl rfl hd _ kk
theorem aaload (O : On l Z ws R own nm bytes maxL ret C T h cells slots) {a : Addr} {cl : Cell} {ty : FieldType} {j : Int32} {v : Value} (hd : decode bytes pc = .ok (.aaload, 1)) (A : Arr Z h a cl ty) (hty : ty.isReference = true) (hin : ¬ (j < 0 ∨ cl.slots.size ≤ j.toNatClampNeg)) (hv : cl.slots[j.toNatClampNeg]? = some v) (hq : pc + 1 = q)
    (K : Go C ws Q k n (T.setTop (mkF C.m q Ls (v :: st)))) : Go C ws Q k n (T.setTop (mkF C.m pc Ls (.int j :: .ref a :: st))) := by
  obtain ⟨⟨hx, hZ, rfl, -⟩, ⟨_, X, N⟩, eT⟩ := O; subst hq
  exact K.of fun _ kk => X.aaload hx (by rw [eT]; exact A.1) (State.isArrayOf_alike hZ.alike A.2.1) hty A.2.2 hin hv (g := mkF C.m pc Ls (.int j :: .ref a :: st)) rfl rfl hd _ kk
theorem arraylength (O : On l Z ws R own nm bytes maxL ret C T h cells slots) {a : Addr} {cl : Cell} {ty : FieldType} {z : Int32} (hd : decode bytes pc = .ok (.arraylength, 1)) (A : Arr Z h a cl ty) (hz : cl.slots.size.toInt32 = z) (hq : pc + 1 = q)
    (K : Go C ws Q k n (T.setTop (mkF C.m q Ls (.int z :: st)))) : Go C ws Q k n (T.setTop (mkF C.m pc Ls (.ref a :: st))) := by
  obtain ⟨⟨hx, hZ, rfl, -⟩, ⟨_, X, N⟩, eT⟩ := O; subst hq hz
  exact K.of fun _ kk => X.arraylength hx (by rw [eT]; exact A.1) (State.isArrayOf_alike hZ.alike A.2.1) (g := mkF C.m pc Ls (.ref a :: st)) rfl rfl hd _ kk
theorem iastore (O : On l Z ws R own nm bytes maxL ret C T h cells slots) {a : Addr} {cl : Cell} {j : Int32} {x : Int32} (hd : decode bytes pc = .ok (.iastore, 1)) (A : Arr Z h a cl .int) (hin : ¬ (j < 0 ∨ cl.slots.size ≤ j.toNatClampNeg)) (ha : a ∈ ws ∨ C.s.heap.size ≤ a) (hq : pc + 1 = q)
    (K : ∀ T' h', On l Z ws R own nm bytes maxL ret C T' h' cells slots → Wr h h' a j.toNatClampNeg (.int x) → Go C ws Q k n (T'.setTop (mkF C.m q Ls st))) : Go C ws Q k n (T.setTop (mkF C.m pc Ls (.int x :: .int j :: .ref a :: st))) := by
  obtain ⟨⟨hx, hZ, rfl, r1, hown, r2⟩, ⟨_, X, N⟩, eT⟩ := O; subst hq
  obtain ⟨T', h', X', e', W, stp⟩ := Jvm.RoadKit.stI X hx hZ eT A hin (g := mkF C.m pc Ls (.int x :: .int j :: .ref a :: st)) rfl rfl hd
  exact (K T' h' ⟨⟨hx, hZ, rfl, r1, hown, r2⟩, ⟨_, X', N.snoc ha⟩, e'⟩ W).of fun _ kk => stp _ kk
theorem lastore (O : On l Z ws R own nm bytes maxL ret C T h cells slots) {a : Addr} {cl : Cell} {j : Int32} {x : Int64} (hd : decode bytes pc = .ok (.lastore, 1)) (A : Arr Z h a cl .long) (hin : ¬ (j < 0 ∨ cl.slots.size ≤ j.toNatClampNeg)) (ha : a ∈ ws ∨ C.s.heap.size ≤ a) (hq : pc + 1 = q)
    (K : ∀ T' h', On l Z ws R own nm bytes maxL ret C T' h' cells slots → Wr h h' a j.toNatClampNeg (.long x) → Go C ws Q k n (T'.setTop (mkF C.m q Ls st))) : Go C ws Q k n (T.setTop (mkF C.m pc Ls (.long x :: .int j :: .ref a :: st))) := by
  obtain ⟨⟨hx, hZ, rfl, r1, hown, r2⟩, ⟨_, X, N⟩, eT⟩ := O; subst hq
  obtain ⟨T', h', X', e', W, stp⟩ := Jvm.RoadKit.stJ X hx hZ eT A hin (g := mkF C.m pc Ls (.long x :: .int j :: .ref a :: st)) rfl rfl hd
  exact (K T' h' ⟨⟨hx, hZ, rfl, r1, hown, r2⟩, ⟨_, X', N.snoc ha⟩, e'⟩ W).of fun _ kk => stp _ kk
theorem bastore (O : On l Z ws R own nm bytes maxL ret C T h cells slots) {a : Addr} {cl : Cell} {j : Int32} {x : Int32} (hd : decode bytes pc = .ok (.bastore, 1)) (A : Arr Z h a cl .byte) (hin : ¬ (j < 0 ∨ cl.slots.size ≤ j.toNatClampNeg)) (ha : a ∈ ws ∨ C.s.heap.size ≤ a) (hq : pc + 1 = q)
    (K : ∀ T' h', On l Z ws R own nm bytes maxL ret C T' h' cells slots → Wr h h' a j.toNatClampNeg (.int (nar .byte x)) → Go C ws Q k n (T'.setTop (mkF C.m q Ls st))) : Go C ws Q k n (T.setTop (mkF C.m pc Ls (.int x :: .int j :: .ref a :: st))) := by
  obtain ⟨⟨hx, hZ, rfl, r1, hown, r2⟩, ⟨_, X, N⟩, eT⟩ := O; subst hq
  obtain ⟨T', h', X', e', W, stp⟩ := Jvm.RoadKit.stB X hx hZ eT A hin (g := mkF C.m pc Ls (.int x :: .int j :: .ref a :: st)) rfl rfl hd
  exact (K T' h' ⟨⟨hx, hZ, rfl, r1, hown, r2⟩, ⟨_, X', N.snoc ha⟩, e'⟩ W).of fun _ kk => stp _ kk
theorem callS (O : On l Z ws R own nm bytes maxL ret C T h cells slots) {i : Nat} {y : MethodName} {yb : ByteArray} {yl : Nat} {yr : Option FieldType} {rm : Room} {argsL rest : List Value} {wsc : List Addr} {Qc : Option Value → Heap → Prop} {ps : List FieldType} {rr : Option FieldType} {W c2 s2 : Nat}
    (hd : decode bytes pc = .ok (.invokestatic i, 3)) (w1 : (Cond.methodLink own i y).before a0 Z = true) (w2 : (Cond.static y).before a0 Z = true) (w3 : (Cond.initialized y.cls).before a0 Z = true) (w4 : (Cond.code y yb yl yr).before a0 Z = true) (hy : y.cls ≠ "java/lang/invoke/MethodHandle" ∧ y.cls ≠ "java/lang/invoke/VarHandle")
    (hM : Met l Z y yb yl yr [] rm (argsL).toArray wsc h Qc) (hsz : Ls.size = maxL) (hpd : parseMethodDescriptor y.desc = some ⟨ps, rr⟩) (hlen : argsL.length = ps.length) (hst : st = argsL.reverse ++ rest) (hW : (rest.map fun v => v.category).sum ≤ W)
    (hf : rm.frames + 1 ≤ R.frames) (hl : W + (yl + 11) + rm.locals ≤ R.locals) (hc2 : cells + rm.cells = c2) (hs2 : slots + rm.slots = s2) (hcl : c2 ≤ R.cells) (hsl : s2 ≤ R.slots) (hws : ∀ x ∈ wsc, x ∈ ws ∨ C.s.heap.size ≤ x) (hq : pc + 3 = q)
    (K : ∀ v T' h', On l Z ws R own nm bytes maxL ret C T' h' c2 s2 → Keep h h' wsc → Qc v h' → Go C ws Q k n (T'.setTop (mkF C.m q Ls (v.toList ++ rest)))) : Go C ws Q k n (T.setTop (mkF C.m pc Ls st)) := by
  obtain ⟨⟨hx, hZ, rfl, r1, hown, r2⟩, ⟨locs, X, N⟩, eT⟩ := O; subst hq hc2 hs2
  obtain ⟨v, _, ⟨T', L', k', n'⟩, -, X', ⟨Lc, hQ, l', y', z'⟩, stp⟩ := Jvm.LawKit.callS X hx (y := y) hown (mvT hZ w1) (mvT hZ w2) (mvT hZ w3) (mvT hZ w4) hy (backOf (W := W) (Q := Post wsc rm.cells h Qc) hM hZ w4 w3 hf hl) (g := mkF C.m pc Ls st) rfl (hsz.trans r1.symm) (argsL := argsL) (rest := rest) (lenOf hpd hlen) hst (by show 2 * 0 + _ ≤ _; rw [Nat.mul_zero, Nat.zero_add]; exact hW) hd (fun _ _ => ⟨rfl, eT, hcl, hsl⟩)
  dsimp only [Pt.U, Pt.locs, Pt.cells, Pt.slots] at X' l' y' z' stp hQ
  subst l' y' z'
  obtain ⟨hF, hK, hE, hQ⟩ := hQ
  have hb : C.s.heap.size ≤ h.size := eT ▸ X.same.2.1
  exact (K v T' T'.heap ⟨⟨hx, hZ, rfl, r1, hown, r2⟩, ⟨_, X', N.app fun y hy => (hF y hy).elim (hws _) fun z => Or.inr (Nat.le_trans hb z)⟩, rfl⟩ hK hQ).of fun _ kk => stp _ kk
theorem callS0 (O : On l Z ws R own nm bytes maxL ret C T h cells slots) {i : Nat} {y : MethodName} {yb : ByteArray} {yl : Nat} {yr : Option FieldType} {rm : Room} {argsL rest : List Value} {wsc : List Addr} {Qc : Option Value → Heap → Prop} {ps : List FieldType} {rr : Option FieldType} {W c2 s2 : Nat}
    (hd : decode bytes pc = .ok (.invokestatic i, 3)) (w1 : (Cond.methodLink own i y).before a0 Z = true) (w2 : (Cond.static y).before a0 Z = true) (w3 : (Cond.initialized y.cls).before a0 Z = true) (w4 : (Cond.code y yb yl yr).before a0 Z = true) (hy : y.cls ≠ "java/lang/invoke/MethodHandle" ∧ y.cls ≠ "java/lang/invoke/VarHandle")
    (hM : Met l Z y yb yl yr [] rm (argsL).toArray wsc h Qc) (hsz : Ls.size = maxL) (hpd : parseMethodDescriptor y.desc = some ⟨ps, rr⟩) (hlen : argsL.length = ps.length) (hst : st = argsL.reverse ++ rest) (hW : (rest.map fun v => v.category).sum ≤ W)
    (hf : rm.frames + 1 ≤ R.frames) (hl : W + (yl + 11) + rm.locals ≤ R.locals) (hc2 : cells + rm.cells = c2) (hs2 : slots + rm.slots = s2) (hcl : c2 ≤ R.cells) (hsl : s2 ≤ R.slots) (hrc : rm.cells = 0) (hwc : wsc = []) (hq : pc + 3 = q)
    (K : ∀ v T', On l Z ws R own nm bytes maxL ret C T' h c2 s2 → Qc v h → Go C ws Q k n (T'.setTop (mkF C.m q Ls (v.toList ++ rest)))) : Go C ws Q k n (T.setTop (mkF C.m pc Ls st)) := by
  obtain ⟨⟨hx, hZ, rfl, r1, hown, r2⟩, ⟨locs, X, N⟩, eT⟩ := O; subst hq hc2 hs2
  obtain ⟨v, _, ⟨T', L', k', n'⟩, -, X', ⟨Lc, hQ, l', y', z'⟩, stp⟩ := Jvm.LawKit.callS X hx (y := y) hown (mvT hZ w1) (mvT hZ w2) (mvT hZ w3) (mvT hZ w4) hy (backOf (W := W) (Q := Post wsc rm.cells h Qc) hM hZ w4 w3 hf hl) (g := mkF C.m pc Ls st) rfl (hsz.trans r1.symm) (argsL := argsL) (rest := rest) (lenOf hpd hlen) hst (by show 2 * 0 + _ ≤ _; rw [Nat.mul_zero, Nat.zero_add]; exact hW) hd (fun _ _ => ⟨rfl, eT, hcl, hsl⟩)
  dsimp only [Pt.U, Pt.locs, Pt.cells, Pt.slots] at X' l' y' z' stp hQ
  subst l' y' z'
  obtain ⟨hF, hK, hE, hQ⟩ := hQ
  have hb : C.s.heap.size ≤ h.size := eT ▸ X.same.2.1
  have he : T'.heap = h := hE hrc hwc
  refine (K v T' ⟨⟨hx, hZ, rfl, r1, hown, r2⟩, ⟨_, X', N.app fun y hy => (hF y hy).elim (fun z => by rw [hwc] at z; cases z) fun z => Or.inr (Nat.le_trans hb z)⟩, he⟩ (he ▸ hQ)).of fun _ kk => stp _ kk
theorem callI (O : On l Z ws R own nm bytes maxL ret C T h cells slots) {i : Nat} {y : MethodName} {yb : ByteArray} {yl : Nat} {rm : Room} {argsL rest : List Value} {wsc : List Addr} {Qc : Option Value → Heap → Prop} {ps : List FieldType} {rr : Option FieldType} {W c2 s2 : Nat} {a : Addr}
    (hd : decode bytes pc = .ok (.invokespecial i, 3)) (hy1 : y.name = "<init>") (w1 : (Cond.methodLink own i y).before a0 Z = true) (w2 : (Cond.instanceMethod y).before a0 Z = true) (w3 : (Cond.initialized y.cls).before a0 Z = true) (w4 : (Cond.code y yb yl none).before a0 Z = true) (hy : y.cls ≠ "java/lang/invoke/MethodHandle" ∧ y.cls ≠ "java/lang/invoke/VarHandle")
    (hM : Met l Z y yb yl none [] rm (Value.ref a :: argsL).toArray wsc h Qc) (hsz : Ls.size = maxL) (hpd : parseMethodDescriptor y.desc = some ⟨ps, rr⟩) (hlen : argsL.length = ps.length) (hst : st = argsL.reverse ++ .ref a :: rest) (hW : (rest.map fun v => v.category).sum ≤ W)
    (hf : rm.frames + 1 ≤ R.frames) (hl : W + (yl + 11) + rm.locals ≤ R.locals) (hc2 : cells + rm.cells = c2) (hs2 : slots + rm.slots = s2) (hcl : c2 ≤ R.cells) (hsl : s2 ≤ R.slots) (hws : ∀ x ∈ wsc, x ∈ ws ∨ C.s.heap.size ≤ x) (hq : pc + 3 = q)
    (K : ∀ v T' h', On l Z ws R own nm bytes maxL ret C T' h' c2 s2 → Keep h h' wsc → Qc v h' → Go C ws Q k n (T'.setTop (mkF C.m q Ls (v.toList ++ rest)))) : Go C ws Q k n (T.setTop (mkF C.m pc Ls st)) := by
  obtain ⟨⟨hx, hZ, rfl, r1, hown, r2⟩, ⟨locs, X, N⟩, eT⟩ := O; subst hq hc2 hs2
  obtain ⟨v, _, ⟨T', L', k', n'⟩, -, X', ⟨Lc, hQ, l', y', z'⟩, stp⟩ := X.specialBack hx (y := y) hy1 hown (mvT hZ w1) (mvT hZ w2) (mvT hZ w4) hy (backOf (W := W) (Q := Post wsc rm.cells h Qc) hM hZ w4 w3 hf hl) (g := mkF C.m pc Ls st) rfl (hsz.trans r1.symm) (Steps.refl _) (a := a) (argsL := argsL) (rest := rest) (lenOf hpd hlen) hst (by show 2 * 0 + _ ≤ _; rw [Nat.mul_zero, Nat.zero_add]; exact hW) hd (fun _ _ => ⟨rfl, eT, hcl, hsl⟩)
  dsimp only [Pt.U, Pt.locs, Pt.cells, Pt.slots] at X' l' y' z' stp hQ
  subst l' y' z'
  obtain ⟨hF, hK, hE, hQ⟩ := hQ
  have hb : C.s.heap.size ≤ h.size := eT ▸ X.same.2.1
  exact (K v T' T'.heap ⟨⟨hx, hZ, rfl, r1, hown, r2⟩, ⟨_, X', N.app fun y hy => (hF y hy).elim (hws _) fun z => Or.inr (Nat.le_trans hb z)⟩, rfl⟩ hK hQ).via (stp)
theorem callI0 (O : On l Z ws R own nm bytes maxL ret C T h cells slots) {i : Nat} {y : MethodName} {yb : ByteArray} {yl : Nat} {rm : Room} {argsL rest : List Value} {wsc : List Addr} {Qc : Option Value → Heap → Prop} {ps : List FieldType} {rr : Option FieldType} {W c2 s2 : Nat} {a : Addr}
    (hd : decode bytes pc = .ok (.invokespecial i, 3)) (hy1 : y.name = "<init>") (w1 : (Cond.methodLink own i y).before a0 Z = true) (w2 : (Cond.instanceMethod y).before a0 Z = true) (w3 : (Cond.initialized y.cls).before a0 Z = true) (w4 : (Cond.code y yb yl none).before a0 Z = true) (hy : y.cls ≠ "java/lang/invoke/MethodHandle" ∧ y.cls ≠ "java/lang/invoke/VarHandle")
    (hM : Met l Z y yb yl none [] rm (Value.ref a :: argsL).toArray wsc h Qc) (hsz : Ls.size = maxL) (hpd : parseMethodDescriptor y.desc = some ⟨ps, rr⟩) (hlen : argsL.length = ps.length) (hst : st = argsL.reverse ++ .ref a :: rest) (hW : (rest.map fun v => v.category).sum ≤ W)
    (hf : rm.frames + 1 ≤ R.frames) (hl : W + (yl + 11) + rm.locals ≤ R.locals) (hc2 : cells + rm.cells = c2) (hs2 : slots + rm.slots = s2) (hcl : c2 ≤ R.cells) (hsl : s2 ≤ R.slots) (hrc : rm.cells = 0) (hwc : wsc = []) (hq : pc + 3 = q)
    (K : ∀ v T', On l Z ws R own nm bytes maxL ret C T' h c2 s2 → Qc v h → Go C ws Q k n (T'.setTop (mkF C.m q Ls (v.toList ++ rest)))) : Go C ws Q k n (T.setTop (mkF C.m pc Ls st)) := by
  obtain ⟨⟨hx, hZ, rfl, r1, hown, r2⟩, ⟨locs, X, N⟩, eT⟩ := O; subst hq hc2 hs2
  obtain ⟨v, _, ⟨T', L', k', n'⟩, -, X', ⟨Lc, hQ, l', y', z'⟩, stp⟩ := X.specialBack hx (y := y) hy1 hown (mvT hZ w1) (mvT hZ w2) (mvT hZ w4) hy (backOf (W := W) (Q := Post wsc rm.cells h Qc) hM hZ w4 w3 hf hl) (g := mkF C.m pc Ls st) rfl (hsz.trans r1.symm) (Steps.refl _) (a := a) (argsL := argsL) (rest := rest) (lenOf hpd hlen) hst (by show 2 * 0 + _ ≤ _; rw [Nat.mul_zero, Nat.zero_add]; exact hW) hd (fun _ _ => ⟨rfl, eT, hcl, hsl⟩)
  dsimp only [Pt.U, Pt.locs, Pt.cells, Pt.slots] at X' l' y' z' stp hQ
  subst l' y' z'
  obtain ⟨hF, hK, hE, hQ⟩ := hQ
  have hb : C.s.heap.size ≤ h.size := eT ▸ X.same.2.1
  have he : T'.heap = h := hE hrc hwc
  refine (K v T' ⟨⟨hx, hZ, rfl, r1, hown, r2⟩, ⟨_, X', N.app fun y hy => (hF y hy).elim (fun z => by rw [hwc] at z; cases z) fun z => Or.inr (Nat.le_trans hb z)⟩, he⟩ (he ▸ hQ)).via (stp)
theorem callV (O : On l Z ws R own nm bytes maxL ret C T h cells slots) {i : Nat} {y z : MethodName} {yb : ByteArray} {yl : Nat} {yr : Option FieldType} {rm : Room} {argsL rest : List Value} {wsc : List Addr} {Qc : Option Value → Heap → Prop} {ps : List FieldType} {rr : Option FieldType} {W c2 s2 : Nat} {a : Addr} {K0 : String}
    (hd : decode bytes pc = .ok (.invokevirtual i, 3)) (w1 : (Cond.methodLink own i y).before a0 Z = true) (wd : (Cond.declares y).before a0 Z = true) (ws1 : (Cond.selects K0 y z).before a0 Z = true) (hyz : y = z) (w2 : (Cond.instanceMethod z).before a0 Z = true) (w3 : (Cond.initialized z.cls).before a0 Z = true) (w4 : (Cond.code z yb yl yr).before a0 Z = true) (hy : y.cls ≠ "java/lang/invoke/MethodHandle" ∧ y.cls ≠ "java/lang/invoke/VarHandle")
    (hM : Met l Z z yb yl yr [] rm (Value.ref a :: argsL).toArray wsc h Qc) (E : Exa Z h a K0) (hsz : Ls.size = maxL) (hpd : parseMethodDescriptor y.desc = some ⟨ps, rr⟩) (hlen : argsL.length = ps.length) (hst : st = argsL.reverse ++ .ref a :: rest) (hW : (rest.map fun v => v.category).sum ≤ W)
    (hf : rm.frames + 1 ≤ R.frames) (hl : W + (yl + 11) + rm.locals ≤ R.locals) (hc2 : cells + rm.cells = c2) (hs2 : slots + rm.slots = s2) (hcl : c2 ≤ R.cells) (hsl : s2 ≤ R.slots) (hws : ∀ x ∈ wsc, x ∈ ws ∨ C.s.heap.size ≤ x) (hq : pc + 3 = q)
    (K : ∀ v T' h', On l Z ws R own nm bytes maxL ret C T' h' c2 s2 → Keep h h' wsc → Qc v h' → Go C ws Q k n (T'.setTop (mkF C.m q Ls (v.toList ++ rest)))) : Go C ws Q k n (T.setTop (mkF C.m pc Ls st)) := by
  obtain ⟨⟨hx, hZ, rfl, r1, hown, r2⟩, ⟨locs, X, N⟩, eT⟩ := O; subst hq hc2 hs2
  subst hyz
  obtain ⟨_, _, q1, -, q3⟩ := isOf hZ eT E
  obtain ⟨v, _, ⟨T', L', k', n'⟩, -, X', ⟨Lc, hQ, l', y', z'⟩, stp⟩ := X.virtualBack hx (y := y) (z := y) hown (mvT hZ w1) (mvT hZ wd) (notFace_of_selects (args := #[]) (mvT hZ ws1)) (mvT hZ ws1) (mvT hZ w2) hy (backOf (W := W) (Q := Post wsc rm.cells h Qc) hM hZ w4 w3 hf hl) q1 q3 (g := mkF C.m pc Ls st) rfl (hsz.trans r1.symm) (Steps.refl _) (argsL := argsL) (rest := rest) (lenOf hpd hlen) hst (by show 2 * 0 + _ ≤ _; rw [Nat.mul_zero, Nat.zero_add]; exact hW) hd (fun _ _ => ⟨rfl, eT, hcl, hsl⟩)
  dsimp only [Pt.U, Pt.locs, Pt.cells, Pt.slots] at X' l' y' z' stp hQ
  subst l' y' z'
  obtain ⟨hF, hK, hE, hQ⟩ := hQ
  have hb : C.s.heap.size ≤ h.size := eT ▸ X.same.2.1
  exact (K v T' T'.heap ⟨⟨hx, hZ, rfl, r1, hown, r2⟩, ⟨_, X', N.app fun y hy => (hF y hy).elim (hws _) fun z => Or.inr (Nat.le_trans hb z)⟩, rfl⟩ hK hQ).via (stp)
theorem callV0 (O : On l Z ws R own nm bytes maxL ret C T h cells slots) {i : Nat} {y z : MethodName} {yb : ByteArray} {yl : Nat} {yr : Option FieldType} {rm : Room} {argsL rest : List Value} {wsc : List Addr} {Qc : Option Value → Heap → Prop} {ps : List FieldType} {rr : Option FieldType} {W c2 s2 : Nat} {a : Addr} {K0 : String}
    (hd : decode bytes pc = .ok (.invokevirtual i, 3)) (w1 : (Cond.methodLink own i y).before a0 Z = true) (wd : (Cond.declares y).before a0 Z = true) (ws1 : (Cond.selects K0 y z).before a0 Z = true) (hyz : y = z) (w2 : (Cond.instanceMethod z).before a0 Z = true) (w3 : (Cond.initialized z.cls).before a0 Z = true) (w4 : (Cond.code z yb yl yr).before a0 Z = true) (hy : y.cls ≠ "java/lang/invoke/MethodHandle" ∧ y.cls ≠ "java/lang/invoke/VarHandle")
    (hM : Met l Z z yb yl yr [] rm (Value.ref a :: argsL).toArray wsc h Qc) (E : Exa Z h a K0) (hsz : Ls.size = maxL) (hpd : parseMethodDescriptor y.desc = some ⟨ps, rr⟩) (hlen : argsL.length = ps.length) (hst : st = argsL.reverse ++ .ref a :: rest) (hW : (rest.map fun v => v.category).sum ≤ W)
    (hf : rm.frames + 1 ≤ R.frames) (hl : W + (yl + 11) + rm.locals ≤ R.locals) (hc2 : cells + rm.cells = c2) (hs2 : slots + rm.slots = s2) (hcl : c2 ≤ R.cells) (hsl : s2 ≤ R.slots) (hrc : rm.cells = 0) (hwc : wsc = []) (hq : pc + 3 = q)
    (K : ∀ v T', On l Z ws R own nm bytes maxL ret C T' h c2 s2 → Qc v h → Go C ws Q k n (T'.setTop (mkF C.m q Ls (v.toList ++ rest)))) : Go C ws Q k n (T.setTop (mkF C.m pc Ls st)) := by
  obtain ⟨⟨hx, hZ, rfl, r1, hown, r2⟩, ⟨locs, X, N⟩, eT⟩ := O; subst hq hc2 hs2
  subst hyz
  obtain ⟨_, _, q1, -, q3⟩ := isOf hZ eT E
  obtain ⟨v, _, ⟨T', L', k', n'⟩, -, X', ⟨Lc, hQ, l', y', z'⟩, stp⟩ := X.virtualBack hx (y := y) (z := y) hown (mvT hZ w1) (mvT hZ wd) (notFace_of_selects (args := #[]) (mvT hZ ws1)) (mvT hZ ws1) (mvT hZ w2) hy (backOf (W := W) (Q := Post wsc rm.cells h Qc) hM hZ w4 w3 hf hl) q1 q3 (g := mkF C.m pc Ls st) rfl (hsz.trans r1.symm) (Steps.refl _) (argsL := argsL) (rest := rest) (lenOf hpd hlen) hst (by show 2 * 0 + _ ≤ _; rw [Nat.mul_zero, Nat.zero_add]; exact hW) hd (fun _ _ => ⟨rfl, eT, hcl, hsl⟩)
  dsimp only [Pt.U, Pt.locs, Pt.cells, Pt.slots] at X' l' y' z' stp hQ
  subst l' y' z'
  obtain ⟨hF, hK, hE, hQ⟩ := hQ
  have hb : C.s.heap.size ≤ h.size := eT ▸ X.same.2.1
  have he : T'.heap = h := hE hrc hwc
  refine (K v T' ⟨⟨hx, hZ, rfl, r1, hown, r2⟩, ⟨_, X', N.app fun y hy => (hF y hy).elim (fun z => by rw [hwc] at z; cases z) fun z => Or.inr (Nat.le_trans hb z)⟩, he⟩ (he ▸ hQ)).via (stp)
theorem tltL {x y : Int64} (h : x < y) : ifCond.holds .lt (lcmpW x y) = true ∧ ifCond.holds .ge (lcmpW x y) = false ∧ ifCond.holds .gt (lcmpW y x) = true ∧ ifCond.holds .le (lcmpW y x) = false := by
  rw [if0, if0, if0, if0]
  exact ⟨(tlt ((lw_lt x y).mpr h)).1, (tlt ((lw_lt x y).mpr h)).2.1, (tlt ((lw_gt y x).mpr h)).2.2.1, (tlt ((lw_gt y x).mpr h)).2.2.2⟩
theorem fltL {x y : Int64} (h : ¬ x < y) : ifCond.holds .lt (lcmpW x y) = false ∧ ifCond.holds .ge (lcmpW x y) = true ∧ ifCond.holds .gt (lcmpW y x) = false ∧ ifCond.holds .le (lcmpW y x) = true := by
  rw [if0, if0, if0, if0]
  have h1 : ¬ lcmpW x y < 0 := fun q => h ((lw_lt x y).mp q)
  have h2 : ¬ 0 < lcmpW y x := fun q => h ((lw_gt y x).mp q)
  exact ⟨(flt h1).1, (flt h1).2.1, (flt h2).2.2.1, (flt h2).2.2.2⟩
theorem teqL {x y : Int64} (h : x = y) : ifCond.holds .eq (lcmpW x y) = true ∧ ifCond.holds .ne (lcmpW x y) = false := by
  rw [if0, if0]; exact teq ((lw_eq x y).mpr h)
theorem feqL {x y : Int64} (h : ¬ x = y) : ifCond.holds .eq (lcmpW x y) = false ∧ ifCond.holds .ne (lcmpW x y) = true := by
  rw [if0, if0]; exact feq fun q => h ((lw_eq x y).mp q)
theorem tlt0 {x : Int32} (h : x < 0) : ifCond.holds .lt x = true ∧ ifCond.holds .ge x = false := by rw [if0, if0]; exact ⟨(tlt h).1, (tlt h).2.1⟩
theorem flt0 {x : Int32} (h : ¬ x < 0) : ifCond.holds .lt x = false ∧ ifCond.holds .ge x = true := by rw [if0, if0]; exact ⟨(flt h).1, (flt h).2.1⟩
theorem tgt0 {x : Int32} (h : 0 < x) : ifCond.holds .gt x = true ∧ ifCond.holds .le x = false := by rw [if0, if0]; exact ⟨(tlt h).2.2.1, (tlt h).2.2.2⟩
theorem fgt0 {x : Int32} (h : ¬ 0 < x) : ifCond.holds .gt x = false ∧ ifCond.holds .le x = true := by rw [if0, if0]; exact ⟨(flt h).2.2.1, (flt h).2.2.2⟩
theorem teq0 {x : Int32} (h : x = 0) : ifCond.holds .eq x = true ∧ ifCond.holds .ne x = false := by rw [if0, if0]; exact teq h
theorem feq0 {x : Int32} (h : ¬ x = 0) : ifCond.holds .eq x = false ∧ ifCond.holds .ne x = true := by rw [if0, if0]; exact feq h
end Steps
end Jvm.OwnW

namespace Jvm.OwnW
open Sem ClassFile Op Lib Jvm.Free Jvm.Stand Jvm.LawKit Jvm.RoadKit
/-- an array of n places of the kind ty; place j holds f j -/
def Ar (Z : State) (h : Heap) (a : Addr) (ty : FieldType) (n : Nat) (f : Nat → Value) : Prop := ∃ cl : Cell, Arr Z h a cl ty ∧ cl.slots.size = n ∧ n < 2147483648 ∧ ∀ j, j < n → cl.slots[j]? = some (f j)
/-- the values of a list by their places -/
def lf (vs : List Value) : Nat → Value := fun j => vs.getD j .null
def updV (f : Nat → Value) (i : Nat) (v : Value) : Nat → Value := fun j => if j = i then v else f j
section Arrs
variable {Z : State} {h h' : Heap} {a b : Addr} {ty : FieldType} {n i sl : Nat} {f g : Nat → Value} {v : Value} {ws : List Addr} {vs : List Value}
theorem Ar.lt (F : Ar Z h a ty n f) : a < h.size := by obtain ⟨_, A, -⟩ := F; exact A.lt
theorem Ar.ext (F : Ar Z h a ty n f) (E : Ext h h') : Ar Z h' a ty n f := by obtain ⟨c, A, r⟩ := F; exact ⟨c, A.ext E, r⟩
theorem Ar.keep (F : Ar Z h a ty n f) (K : Keep h h' ws) (q : a ∉ ws) : Ar Z h' a ty n f := by obtain ⟨c, A, r⟩ := F; exact ⟨c, ⟨K.2.1 a c A.1 q, A.2⟩, r⟩
theorem Ar.other (F : Ar Z h b ty n f) (W : Wr h h' a sl v) (q : b ≠ a) : Ar Z h' b ty n f := by obtain ⟨c, A, r⟩ := F; exact ⟨c, A.other W q, r⟩
theorem Ar.congr (F : Ar Z h a ty n f) (q : ∀ j, j < n → f j = g j) : Ar Z h a ty n g := by obtain ⟨c, A, r1, r2, r3⟩ := F; exact ⟨c, A, r1, r2, fun j hj => by rw [r3 j hj, q j hj]⟩
theorem Ar.small (F : Ar Z h a ty n f) : n < 2147483648 := by obtain ⟨c, A, r1, r2, r3⟩ := F; exact r2
theorem toNat_of {z : Int32} {n : Nat} (hz : z.toInt = n) : z.toNatClampNeg = n := by simp only [Int32.toNatClampNeg, hz, Int.toNat_natCast]
theorem Ar.new {k : ClassId} {z : Int32} (A : Arr Z h a (newA k ty z) ty) (hz : z.toInt = n) : Ar Z h a ty n (fun _ => defaultValue ty) := by
  have q := toNat_of hz
  refine ⟨_, A, by rw [sz_new, q], ?_, fun j hj => ?_⟩
  · have := z.toInt_lt; omega
  · simp [newA, q, hj]
theorem Ar.set (F : Ar Z h a ty n f) (W : Wr h h' a i v) (hi : i < n) : Ar Z h' a ty n (updV f i v) := by
  obtain ⟨c, A, r1, r2, r3⟩ := F
  refine ⟨_, A.same W, by rw [sz_set]; exact r1, r2, fun j hj => ?_⟩
  by_cases e : j = i
  · subst e; simp [Cell.setSlot, updV, r1, hi]
  · simp only [Cell.setSlot, updV, if_neg e]; rw [Array.getElem?_setIfInBounds_ne (Ne.symm e)]; exact r3 j hj
theorem Ar.setL (F : Ar Z h a ty n (lf vs)) (W : Wr h h' a i v) (hi : i < n) (hl : i < vs.length) : Ar Z h' a ty n (lf (vs.set i v)) := (F.set W hi).congr fun j _ => by
  simp only [updV, lf, List.getD_eq_getElem?_getD]
  by_cases e : j = i
  · subst e; simp [hl]
  · rw [if_neg e, List.getElem?_set_ne (Ne.symm e)]
theorem lf_rep (n : Nat) (d : Value) (j : Nat) (hj : j < n) : d = lf (List.replicate n d) j := by simp [lf, hj]
theorem updV_lf (L : List Value) (hi : i < L.length) : updV (lf L) i v = lf (L.set i v) := by
  funext j
  simp only [updV, lf, List.getD_eq_getElem?_getD]
  by_cases e : j = i
  · subst e; simp [hi]
  · rw [if_neg e, List.getElem?_set_ne (Ne.symm e)]
theorem fill_step (N : Nat → Value) (d : Value) (i j : Nat) : updV (fun j => if j < i then N j else d) i (N i) j = if j < i + 1 then N j else d := by
  simp only [updV]
  by_cases e : j = i
  · subst e; rw [if_pos rfl, if_pos (Nat.lt_succ_self j)]
  · rw [if_neg e]
    by_cases q : j < i
    · rw [if_pos q, if_pos (by omega)]
    · rw [if_neg q, if_neg (by omega)]
theorem Ar.of_arr {cl : Cell} (A : Arr Z h a cl ty) (hn : cl.slots.size = n) (h31 : n < 2147483648) : ∃ f, Ar Z h a ty n f :=
  ⟨fun j => cl.slots.getD j .null, cl, A, hn, h31, fun j hj => by simp [Array.getD, hn, hj]⟩
theorem staKeep {D n d : String} (F : Sta Z h D n d v) (K : Keep h h' []) : Sta Z h' D n d v := by
  obtain ⟨cf, i, k, f, st, cell, h1, h2, h3, h4, h5, r⟩ := F
  exact ⟨cf, i, k, f, st, cell, h1, h2, h3, h4, K.2.1 _ _ h5 (fun q => nomatch q), r⟩
theorem inb {z : Int32} {m : Nat} (hz : z.toInt = (i : Int)) (hm : m = n) (hi : i < n) : ¬ (z < 0 ∨ m ≤ z.toNatClampNeg) := by
  rw [toNat_of hz, Int32.lt_iff_toInt_lt, hz, hm]
  have : (0 : Int32).toInt = 0 := rfl
  rw [this]; omega
theorem len32 {m : Nat} {z : Int32} (hm : m = n) (hn : n < 2147483648) (hz : z.toInt = n) : m.toInt32 = z := by
  apply Int32.toInt_inj.mp; rw [hz, hm]; exact len_toInt hn
end Arrs
section ArrSteps
variable {l : Launch} {Z : State} {a0 : Array Value} {ws : List Addr} {R : Room} {own nm : String} {bytes : ByteArray} {maxL : Nat} {ret : Option FieldType} {C : Ctx} {T : State} {h : Heap} {cells slots k n : Nat} {Q : Option Value → Heap → Prop} {pc q : Nat} {Ls L' : Array Slot} {st : List Value}
  {a : Addr} {j : Int32} {i N : Nat} {f : Nat → Value} {v : Value} {ty : FieldType}
theorem ialA (O : On l Z ws R own nm bytes maxL ret C T h cells slots) (hd : decode bytes pc = .ok (.iaload, 1)) (V : Ar Z h a .int N f) (hj : j.toInt = (i : Int)) (hi : i < N) (hv : f i = v) (hq : pc + 1 = q)
    (K : Go C ws Q k n (T.setTop (mkF C.m q Ls (v :: st)))) : Go C ws Q k n (T.setTop (mkF C.m pc Ls (.int j :: .ref a :: st))) := by
  obtain ⟨c, A, r1, r2, r3⟩ := V
  exact iaload O hd A (inb hj r1 hi) (by rw [toNat_of hj, ← hv]; exact r3 i hi) hq K
theorem lalA (O : On l Z ws R own nm bytes maxL ret C T h cells slots) (hd : decode bytes pc = .ok (.laload, 1)) (V : Ar Z h a .long N f) (hj : j.toInt = (i : Int)) (hi : i < N) (hv : f i = v) (hq : pc + 1 = q)
    (K : Go C ws Q k n (T.setTop (mkF C.m q Ls (v :: st)))) : Go C ws Q k n (T.setTop (mkF C.m pc Ls (.int j :: .ref a :: st))) := by
  obtain ⟨c, A, r1, r2, r3⟩ := V
  exact laload O hd A (inb hj r1 hi) (by rw [toNat_of hj, ← hv]; exact r3 i hi) hq K
theorem balA (O : On l Z ws R own nm bytes maxL ret C T h cells slots) (hd : decode bytes pc = .ok (.baload, 1)) (V : Ar Z h a .byte N f) (hj : j.toInt = (i : Int)) (hi : i < N) (hv : f i = v) (hq : pc + 1 = q)
    (K : Go C ws Q k n (T.setTop (mkF C.m q Ls (v :: st)))) : Go C ws Q k n (T.setTop (mkF C.m pc Ls (.int j :: .ref a :: st))) := by
  obtain ⟨c, A, r1, r2, r3⟩ := V
  exact baload O hd A (inb hj r1 hi) (by rw [toNat_of hj, ← hv]; exact r3 i hi) hq K
theorem aalA (O : On l Z ws R own nm bytes maxL ret C T h cells slots) (hd : decode bytes pc = .ok (.aaload, 1)) (V : Ar Z h a ty N f) (hty : ty.isReference = true) (hj : j.toInt = (i : Int)) (hi : i < N) (hv : f i = v) (hq : pc + 1 = q)
    (K : Go C ws Q k n (T.setTop (mkF C.m q Ls (v :: st)))) : Go C ws Q k n (T.setTop (mkF C.m pc Ls (.int j :: .ref a :: st))) := by
  obtain ⟨c, A, r1, r2, r3⟩ := V
  exact aaload O hd A hty (inb hj r1 hi) (by rw [toNat_of hj, ← hv]; exact r3 i hi) hq K
theorem lenA (O : On l Z ws R own nm bytes maxL ret C T h cells slots) (hd : decode bytes pc = .ok (.arraylength, 1)) (V : Ar Z h a ty N f) {z : Int32} (hz : z.toInt = N) (hq : pc + 1 = q)
    (K : Go C ws Q k n (T.setTop (mkF C.m q Ls (.int z :: st)))) : Go C ws Q k n (T.setTop (mkF C.m pc Ls (.ref a :: st))) := by
  obtain ⟨c, A, r1, r2, r3⟩ := V
  exact arraylength O hd A (len32 r1 r2 hz) hq K
theorem iasA (O : On l Z ws R own nm bytes maxL ret C T h cells slots) {x : Int32} (hd : decode bytes pc = .ok (.iastore, 1)) (V : Ar Z h a .int N f) (hj : j.toInt = (i : Int)) (hi : i < N) (ha : a ∈ ws ∨ C.s.heap.size ≤ a) (hq : pc + 1 = q)
    (K : ∀ T' h', On l Z ws R own nm bytes maxL ret C T' h' cells slots → Wr h h' a i (.int x) → Go C ws Q k n (T'.setTop (mkF C.m q Ls st))) : Go C ws Q k n (T.setTop (mkF C.m pc Ls (.int x :: .int j :: .ref a :: st))) := by
  obtain ⟨c, A, r1, r2, r3⟩ := V
  exact iastore O hd A (inb hj r1 hi) ha hq fun T' h' O' W => K T' h' O' (toNat_of hj ▸ W)
theorem lasA (O : On l Z ws R own nm bytes maxL ret C T h cells slots) {x : Int64} (hd : decode bytes pc = .ok (.lastore, 1)) (V : Ar Z h a .long N f) (hj : j.toInt = (i : Int)) (hi : i < N) (ha : a ∈ ws ∨ C.s.heap.size ≤ a) (hq : pc + 1 = q)
    (K : ∀ T' h', On l Z ws R own nm bytes maxL ret C T' h' cells slots → Wr h h' a i (.long x) → Go C ws Q k n (T'.setTop (mkF C.m q Ls st))) : Go C ws Q k n (T.setTop (mkF C.m pc Ls (.long x :: .int j :: .ref a :: st))) := by
  obtain ⟨c, A, r1, r2, r3⟩ := V
  exact lastore O hd A (inb hj r1 hi) ha hq fun T' h' O' W => K T' h' O' (toNat_of hj ▸ W)
theorem basA (O : On l Z ws R own nm bytes maxL ret C T h cells slots) {x y : Int32} (hd : decode bytes pc = .ok (.bastore, 1)) (V : Ar Z h a .byte N f) (hj : j.toInt = (i : Int)) (hi : i < N) (ha : a ∈ ws ∨ C.s.heap.size ≤ a) (hy : x.toInt8.toInt32 = y) (hq : pc + 1 = q)
    (K : ∀ T' h', On l Z ws R own nm bytes maxL ret C T' h' cells slots → Wr h h' a i (.int y) → Go C ws Q k n (T'.setTop (mkF C.m q Ls st))) : Go C ws Q k n (T.setTop (mkF C.m pc Ls (.int x :: .int j :: .ref a :: st))) := by
  obtain ⟨c, A, r1, r2, r3⟩ := V
  subst hy
  exact bastore O hd A (inb hj r1 hi) ha hq fun T' h' O' W => K T' h' O' (toNat_of hj ▸ W)
theorem newA' (O : On l Z ws R own nm bytes maxL ret C T h cells slots) {aty : ArrayType} {c2 s2 : Nat} (hd : decode bytes pc = .ok (.newarray aty, 2)) (ht : newarray.typeOf aty = ty) (w : (Cond.arrayClass ty).before a0 Z = true) {z : Int32} (hz : z.toInt = N) {cap : Nat} (hcap : N ≤ cap) (hb : cap * 8 ≤ 536870912) (hc2 : cells + 1 = c2) (hs2 : slots + cap = s2) (hc : c2 ≤ R.cells) (hl : s2 ≤ R.slots) (hq : pc + 2 = q)
    (K : ∀ a T' h', a = h.size → C.s.heap.size ≤ a → On l Z ws R own nm bytes maxL ret C T' h' c2 s2 → Ext h h' → Ar Z h' a ty N (fun _ => defaultValue ty) → Go C ws Q k n (T'.setTop (mkF C.m q Ls (.ref a :: st)))) : Go C ws Q k n (T.setTop (mkF C.m pc Ls (.int z :: st))) := by
  subst ht
  refine newP O hd w ?_ (by rw [toNat_of hz]; exact hcap) hb hc2 hs2 hc hl hq fun a T' h' cA e1 e2 O' E A => K a T' h' e1 e2 O' E (Ar.new A hz)
  rw [Int32.lt_iff_toInt_lt, hz]
  have : (0 : Int32).toInt = 0 := rfl
  rw [this]; omega
end ArrSteps
end Jvm.OwnW

namespace Jvm.OwnW
open Jvm.RoadKit
theorem add32 {x y : Int32} (h1 : -2147483648 ≤ x.toInt + y.toInt) (h2 : x.toInt + y.toInt < 2147483648) : (x + y).toInt = x.toInt + y.toInt := by
  have := c_iadd x y; have := rng32 (x + y); omega
theorem sub32 {x y : Int32} (h1 : -2147483648 ≤ x.toInt - y.toInt) (h2 : x.toInt - y.toInt < 2147483648) : (x - y).toInt = x.toInt - y.toInt := by
  have := c_isub x y; have := rng32 (x - y); omega
theorem mul32 {x y : Int32} (h1 : -2147483648 ≤ x.toInt * y.toInt) (h2 : x.toInt * y.toInt < 2147483648) : (x * y).toInt = x.toInt * y.toInt := by
  have := c_imul x y; have := rng32 (x * y); omega
theorem add64 {x y : Int64} (h1 : -9223372036854775808 ≤ x.toInt + y.toInt) (h2 : x.toInt + y.toInt < 9223372036854775808) : (x + y).toInt = x.toInt + y.toInt := by
  have := c_ladd x y; have := rng64 (x + y); omega
theorem sub64 {x y : Int64} (h1 : -9223372036854775808 ≤ x.toInt - y.toInt) (h2 : x.toInt - y.toInt < 9223372036854775808) : (x - y).toInt = x.toInt - y.toInt := by
  have := c_lsub x y; have := rng64 (x - y); omega
theorem mul64 {x y : Int64} (h1 : -9223372036854775808 ≤ x.toInt * y.toInt) (h2 : x.toInt * y.toInt < 9223372036854775808) : (x * y).toInt = x.toInt * y.toInt := by
  have := c_lmul x y; have := rng64 (x * y); omega
theorem ne0_32 {z : Int32} (h : 0 < z.toInt) : z ≠ 0 := fun e => by subst e; exact absurd h (by decide)
theorem ne0_64 {z : Int64} (h : 0 < z.toInt) : z ≠ 0 := fun e => by subst e; exact absurd h (by decide)
theorem lt32 {x y : Int32} (h : x.toInt < y.toInt) : x < y := Int32.lt_iff_toInt_lt.mpr h
theorem nlt32 {x y : Int32} (h : y.toInt ≤ x.toInt) : ¬ x < y := fun q => by rw [Int32.lt_iff_toInt_lt] at q; omega
theorem lt64 {x y : Int64} (h : x.toInt < y.toInt) : x < y := Int64.lt_iff_toInt_lt.mpr h
theorem nlt64 {x y : Int64} (h : y.toInt ≤ x.toInt) : ¬ x < y := fun q => by rw [Int64.lt_iff_toInt_lt] at q; omega
theorem eq32 {x y : Int32} (h : x.toInt = y.toInt) : x = y := Int32.toInt_inj.mp h
theorem ne32 {x y : Int32} (h : x.toInt ≠ y.toInt) : ¬ x = y := fun e => h (congrArg _ e)
theorem ne64 {x y : Int64} (h : x.toInt ≠ y.toInt) : ¬ x = y := fun e => h (congrArg _ e)
/-- (s & 0x7fffffff) % z for a z above 0 -/
theorem rem_in (s z : Int32) (hz : 0 < z.toInt) : ∃ i : Nat, ((s &&& 2147483647) % z).toInt = (i : Int) ∧ (i : Int) < z.toInt := by
  have h1 := c_mask s 2147483647 31 (by decide) (by decide)
  have h2 := (c_iremV (s &&& 2147483647) z).1 (by omega) hz
  exact ⟨((s &&& 2147483647) % z).toInt.toNat, by omega, by omega⟩
theorem b8 (x : Int32) : x.toInt8.toInt32.toInt8.toInt32 = x.toInt8.toInt32 := by
  have h := c_i2b x; have h2 := c_i2b x.toInt8.toInt32
  apply Int32.toInt_inj.mp; omega
theorem lf_int (L : List Int32) (j : Nat) (hj : j < L.length) : lf (L.map Value.int) j = .int (L.getD j 0) := by
  simp [lf, List.getD_eq_getElem?_getD, hj]
theorem lf_long (L : List Int64) (j : Nat) (hj : j < L.length) : lf (L.map Value.long) j = .long (L.getD j 0) := by
  simp [lf, List.getD_eq_getElem?_getD, hj]
end Jvm.OwnW

namespace Jvm.Pilot.@@N@@
open Jvm Jvm.ClassFile Sem Op Lib Jvm.Free Jvm.Stand Jvm.LawKit Jvm.RoadKit Bundle Jvm.OwnW Jvm.Pilot.@@N@@.Jvm.D

theorem dp0_0 : decode method_3_code 0 = .ok (.iload_n 2, 1) := by decide +kernel
theorem dp0_1 : decode method_3_code 1 = .ok (.ifCond .le 7, 3) := by decide +kernel
theorem dp0_8 : decode method_3_code 8 = .ok (.iload_n 2, 1) := by decide +kernel
theorem dp0_9 : decode method_3_code 9 = .ok (.iconst 1, 1) := by decide +kernel
theorem dp0_10 : decode method_3_code 10 = .ok (.if_icmp .le 10, 3) := by decide +kernel
theorem dp0_20 : decode method_3_code 20 = .ok (.iload_n 2, 1) := by decide +kernel
theorem dp0_21 : decode method_3_code 21 = .ok (.iconst 2, 1) := by decide +kernel
theorem dp0_22 : decode method_3_code 22 = .ok (.if_icmp .le 10, 3) := by decide +kernel
theorem dp0_32 : decode method_3_code 32 = .ok (.return_, 1) := by decide +kernel
theorem ef_p0 (a1 : Addr) (p2 : Int32) (x0 : Int32) (x1 : Int32) (x2 : Int32) (m : MethodId) : entryFrame m #[(.ref a1), (.int p2), (.int (0 : Int32)), (.int x0), (.int x1), (.int x2)] 6 = mkF m 0 #[.val (.ref a1), .val (.int p2), .val (.int (0 : Int32)), .val (.int x0), .val (.int x1), .val (.int x2)] [] := by first | (simp [entryFrame, mkF, argsToLocals, Value.category, maxLocals]; done) | rfl
theorem pn_p0 : plainFor (⟨"com/example/lamina/lamina/table/TextVectorHashAtPinLaw", "put", "([BIIBBB)V"⟩ : MethodName) = true := by first | exact plainFor_of_name (by first | (simp [plainName, overriddenIn]; done) | decide +kernel) | decide +kernel
set_option maxRecDepth 65536 in
set_option maxHeartbeats 40000000 in
theorem rm_p0 (l : Launch) (Z : State) (a0 : Array Value) (hw : ∀ d ∈ tables_1, d.before a0 Z = true) (a1 : Addr) (p2 : Int32) (x0 : Int32) (x1 : Int32) (x2 : Int32) (i : Nat) (L : List Value) (h0 : Heap) (V_a1 : Ar Z h0 a1 .byte 9 (lf L)) (hL : L.length = 9) (hi : p2.toInt = (i : Int)) (hn : i + 0 ≤ 9) (bx0 : x0.toInt8.toInt32 = x0) (bx1 : x1.toInt8.toInt32 = x1) (bx2 : x2.toInt8.toInt32 = x2) :
    Met l Z (⟨"com/example/lamina/lamina/table/TextVectorHashAtPinLaw", "put", "([BIIBBB)V"⟩ : MethodName) method_3_code 6 none [] ({ frames := 0, cells := 0, slots := 0, locals := 0 } : Room) #[(.ref a1), (.int p2), (.int (0 : Int32)), (.int x0), (.int x1), (.int x2)] [a1] h0 (fun v h => v = none ∧ Ar Z h a1 .byte 9 (lf L)) := by
  refine Met.mk pn_p0 (ef_p0 a1 p2 x0 x1 x2) ?_
  intro C T hs0 O
  show Go C [a1] (fun v h => v = none ∧ Ar Z h a1 .byte 9 (lf L)) 0 0 (T.setTop (mkF C.m 0 #[.val (.ref a1), .val (.int p2), .val (.int (0 : Int32)), .val (.int x0), .val (.int x1), .val (.int x2)] []))
  refine Jvm.OwnW.iloadN O dp0_0 rfl (q := 1) rfl ?_
  refine Jvm.OwnW.ifYes O dp0_1 (fgt0 (show ¬ ((0 : Int32) < (0 : Int32)) from (by decide))).2 (by decide) (q := 8) rfl ?_
  refine Jvm.OwnW.iloadN O dp0_8 rfl (q := 9) rfl ?_
  refine Jvm.OwnW.iconst O dp0_9 (r := (1 : Int32)) rfl (q := 10) rfl ?_
  refine Jvm.OwnW.icmpYes O dp0_10 (flt (show ¬ ((1 : Int32) < (0 : Int32)) from (by decide))).2.2.2 (by decide) (q := 20) rfl ?_
  refine Jvm.OwnW.iloadN O dp0_20 rfl (q := 21) rfl ?_
  refine Jvm.OwnW.iconst O dp0_21 (r := (2 : Int32)) rfl (q := 22) rfl ?_
  refine Jvm.OwnW.icmpYes O dp0_22 (flt (show ¬ ((2 : Int32) < (0 : Int32)) from (by decide))).2.2.2 (by decide) (q := 32) rfl ?_
  exact Jvm.OwnW.ret0 O dp0_32 (by decide) (by decide) ⟨rfl, V_a1⟩
theorem dp1_0 : decode method_3_code 0 = .ok (.iload_n 2, 1) := by decide +kernel
theorem dp1_1 : decode method_3_code 1 = .ok (.ifCond .le 7, 3) := by decide +kernel
theorem dp1_4 : decode method_3_code 4 = .ok (.aload_n 0, 1) := by decide +kernel
theorem dp1_5 : decode method_3_code 5 = .ok (.iload_n 1, 1) := by decide +kernel
theorem dp1_6 : decode method_3_code 6 = .ok (.iload_n 3, 1) := by decide +kernel
theorem dp1_7 : decode method_3_code 7 = .ok (.bastore, 1) := by decide +kernel
theorem dp1_8 : decode method_3_code 8 = .ok (.iload_n 2, 1) := by decide +kernel
theorem dp1_9 : decode method_3_code 9 = .ok (.iconst 1, 1) := by decide +kernel
theorem dp1_10 : decode method_3_code 10 = .ok (.if_icmp .le 10, 3) := by decide +kernel
theorem dp1_20 : decode method_3_code 20 = .ok (.iload_n 2, 1) := by decide +kernel
theorem dp1_21 : decode method_3_code 21 = .ok (.iconst 2, 1) := by decide +kernel
theorem dp1_22 : decode method_3_code 22 = .ok (.if_icmp .le 10, 3) := by decide +kernel
theorem dp1_32 : decode method_3_code 32 = .ok (.return_, 1) := by decide +kernel
theorem ef_p1 (a1 : Addr) (p2 : Int32) (x0 : Int32) (x1 : Int32) (x2 : Int32) (m : MethodId) : entryFrame m #[(.ref a1), (.int p2), (.int (1 : Int32)), (.int x0), (.int x1), (.int x2)] 6 = mkF m 0 #[.val (.ref a1), .val (.int p2), .val (.int (1 : Int32)), .val (.int x0), .val (.int x1), .val (.int x2)] [] := by first | (simp [entryFrame, mkF, argsToLocals, Value.category, maxLocals]; done) | rfl
theorem pn_p1 : plainFor (⟨"com/example/lamina/lamina/table/TextVectorHashAtPinLaw", "put", "([BIIBBB)V"⟩ : MethodName) = true := by first | exact plainFor_of_name (by first | (simp [plainName, overriddenIn]; done) | decide +kernel) | decide +kernel
set_option maxRecDepth 65536 in
set_option maxHeartbeats 40000000 in
theorem rm_p1 (l : Launch) (Z : State) (a0 : Array Value) (hw : ∀ d ∈ tables_1, d.before a0 Z = true) (a1 : Addr) (p2 : Int32) (x0 : Int32) (x1 : Int32) (x2 : Int32) (i : Nat) (L : List Value) (h0 : Heap) (V_a1 : Ar Z h0 a1 .byte 9 (lf L)) (hL : L.length = 9) (hi : p2.toInt = (i : Int)) (hn : i + 1 ≤ 9) (bx0 : x0.toInt8.toInt32 = x0) (bx1 : x1.toInt8.toInt32 = x1) (bx2 : x2.toInt8.toInt32 = x2) :
    Met l Z (⟨"com/example/lamina/lamina/table/TextVectorHashAtPinLaw", "put", "([BIIBBB)V"⟩ : MethodName) method_3_code 6 none [] ({ frames := 0, cells := 0, slots := 0, locals := 0 } : Room) #[(.ref a1), (.int p2), (.int (1 : Int32)), (.int x0), (.int x1), (.int x2)] [a1] h0 (fun v h => v = none ∧ Ar Z h a1 .byte 9 (lf (L.set i (.int x0)))) := by
  refine Met.mk pn_p1 (ef_p1 a1 p2 x0 x1 x2) ?_
  intro C T hs0 O
  show Go C [a1] (fun v h => v = none ∧ Ar Z h a1 .byte 9 (lf (L.set i (.int x0)))) 0 0 (T.setTop (mkF C.m 0 #[.val (.ref a1), .val (.int p2), .val (.int (1 : Int32)), .val (.int x0), .val (.int x1), .val (.int x2)] []))
  refine Jvm.OwnW.iloadN O dp1_0 rfl (q := 1) rfl ?_
  refine Jvm.OwnW.ifNo O dp1_1 (tgt0 (show (0 : Int32) < (1 : Int32) from (by decide))).2 (q := 4) rfl ?_
  refine Jvm.OwnW.aloadN O dp1_4 rfl rfl (q := 5) rfl ?_
  refine Jvm.OwnW.iloadN O dp1_5 rfl (q := 6) rfl ?_
  refine Jvm.OwnW.iloadN O dp1_6 rfl (q := 7) rfl ?_
  refine Jvm.OwnW.basA O dp1_7 V_a1 (i := i) hi (by omega) (Or.inl (List.mem_cons_self ..)) (y := x0) bx0 (q := 8) rfl ?_
  intro T1 h1 O1 W1
  have V_a1 := V_a1.setL W1 (by omega) (by first | omega | (simp only [List.length_set]; omega))
  refine Jvm.OwnW.iloadN O1 dp1_8 rfl (q := 9) rfl ?_
  refine Jvm.OwnW.iconst O1 dp1_9 (r := (1 : Int32)) rfl (q := 10) rfl ?_
  refine Jvm.OwnW.icmpYes O1 dp1_10 (flt (show ¬ ((1 : Int32) < (1 : Int32)) from (by decide))).2.2.2 (by decide) (q := 20) rfl ?_
  refine Jvm.OwnW.iloadN O1 dp1_20 rfl (q := 21) rfl ?_
  refine Jvm.OwnW.iconst O1 dp1_21 (r := (2 : Int32)) rfl (q := 22) rfl ?_
  refine Jvm.OwnW.icmpYes O1 dp1_22 (flt (show ¬ ((2 : Int32) < (1 : Int32)) from (by decide))).2.2.2 (by decide) (q := 32) rfl ?_
  exact Jvm.OwnW.ret0 O1 dp1_32 (by decide) (by decide) ⟨rfl, V_a1⟩
theorem dp2_0 : decode method_3_code 0 = .ok (.iload_n 2, 1) := by decide +kernel
theorem dp2_1 : decode method_3_code 1 = .ok (.ifCond .le 7, 3) := by decide +kernel
theorem dp2_4 : decode method_3_code 4 = .ok (.aload_n 0, 1) := by decide +kernel
theorem dp2_5 : decode method_3_code 5 = .ok (.iload_n 1, 1) := by decide +kernel
theorem dp2_6 : decode method_3_code 6 = .ok (.iload_n 3, 1) := by decide +kernel
theorem dp2_7 : decode method_3_code 7 = .ok (.bastore, 1) := by decide +kernel
theorem dp2_8 : decode method_3_code 8 = .ok (.iload_n 2, 1) := by decide +kernel
theorem dp2_9 : decode method_3_code 9 = .ok (.iconst 1, 1) := by decide +kernel
theorem dp2_10 : decode method_3_code 10 = .ok (.if_icmp .le 10, 3) := by decide +kernel
theorem dp2_13 : decode method_3_code 13 = .ok (.aload_n 0, 1) := by decide +kernel
theorem dp2_14 : decode method_3_code 14 = .ok (.iload_n 1, 1) := by decide +kernel
theorem dp2_15 : decode method_3_code 15 = .ok (.iconst 1, 1) := by decide +kernel
theorem dp2_16 : decode method_3_code 16 = .ok (.iadd, 1) := by decide +kernel
theorem dp2_17 : decode method_3_code 17 = .ok (.iload 4, 2) := by decide +kernel
theorem dp2_19 : decode method_3_code 19 = .ok (.bastore, 1) := by decide +kernel
theorem dp2_20 : decode method_3_code 20 = .ok (.iload_n 2, 1) := by decide +kernel
theorem dp2_21 : decode method_3_code 21 = .ok (.iconst 2, 1) := by decide +kernel
theorem dp2_22 : decode method_3_code 22 = .ok (.if_icmp .le 10, 3) := by decide +kernel
theorem dp2_32 : decode method_3_code 32 = .ok (.return_, 1) := by decide +kernel
theorem ef_p2 (a1 : Addr) (p2 : Int32) (x0 : Int32) (x1 : Int32) (x2 : Int32) (m : MethodId) : entryFrame m #[(.ref a1), (.int p2), (.int (2 : Int32)), (.int x0), (.int x1), (.int x2)] 6 = mkF m 0 #[.val (.ref a1), .val (.int p2), .val (.int (2 : Int32)), .val (.int x0), .val (.int x1), .val (.int x2)] [] := by first | (simp [entryFrame, mkF, argsToLocals, Value.category, maxLocals]; done) | rfl
theorem pn_p2 : plainFor (⟨"com/example/lamina/lamina/table/TextVectorHashAtPinLaw", "put", "([BIIBBB)V"⟩ : MethodName) = true := by first | exact plainFor_of_name (by first | (simp [plainName, overriddenIn]; done) | decide +kernel) | decide +kernel
set_option maxRecDepth 65536 in
set_option maxHeartbeats 40000000 in
theorem rm_p2 (l : Launch) (Z : State) (a0 : Array Value) (hw : ∀ d ∈ tables_1, d.before a0 Z = true) (a1 : Addr) (p2 : Int32) (x0 : Int32) (x1 : Int32) (x2 : Int32) (i : Nat) (L : List Value) (h0 : Heap) (V_a1 : Ar Z h0 a1 .byte 9 (lf L)) (hL : L.length = 9) (hi : p2.toInt = (i : Int)) (hn : i + 2 ≤ 9) (bx0 : x0.toInt8.toInt32 = x0) (bx1 : x1.toInt8.toInt32 = x1) (bx2 : x2.toInt8.toInt32 = x2) :
    Met l Z (⟨"com/example/lamina/lamina/table/TextVectorHashAtPinLaw", "put", "([BIIBBB)V"⟩ : MethodName) method_3_code 6 none [] ({ frames := 0, cells := 0, slots := 0, locals := 0 } : Room) #[(.ref a1), (.int p2), (.int (2 : Int32)), (.int x0), (.int x1), (.int x2)] [a1] h0 (fun v h => v = none ∧ Ar Z h a1 .byte 9 (lf ((L.set i (.int x0)).set (i + 1) (.int x1)))) := by
  refine Met.mk pn_p2 (ef_p2 a1 p2 x0 x1 x2) ?_
  intro C T hs0 O
  show Go C [a1] (fun v h => v = none ∧ Ar Z h a1 .byte 9 (lf ((L.set i (.int x0)).set (i + 1) (.int x1)))) 0 0 (T.setTop (mkF C.m 0 #[.val (.ref a1), .val (.int p2), .val (.int (2 : Int32)), .val (.int x0), .val (.int x1), .val (.int x2)] []))
  refine Jvm.OwnW.iloadN O dp2_0 rfl (q := 1) rfl ?_
  refine Jvm.OwnW.ifNo O dp2_1 (tgt0 (show (0 : Int32) < (2 : Int32) from (by decide))).2 (q := 4) rfl ?_
  refine Jvm.OwnW.aloadN O dp2_4 rfl rfl (q := 5) rfl ?_
  refine Jvm.OwnW.iloadN O dp2_5 rfl (q := 6) rfl ?_
  refine Jvm.OwnW.iloadN O dp2_6 rfl (q := 7) rfl ?_
  refine Jvm.OwnW.basA O dp2_7 V_a1 (i := i) hi (by omega) (Or.inl (List.mem_cons_self ..)) (y := x0) bx0 (q := 8) rfl ?_
  intro T1 h1 O1 W1
  have V_a1 := V_a1.setL W1 (by omega) (by first | omega | (simp only [List.length_set]; omega))
  refine Jvm.OwnW.iloadN O1 dp2_8 rfl (q := 9) rfl ?_
  refine Jvm.OwnW.iconst O1 dp2_9 (r := (1 : Int32)) rfl (q := 10) rfl ?_
  refine Jvm.OwnW.icmpNo O1 dp2_10 (tlt (show (1 : Int32) < (2 : Int32) from (by decide))).2.2.2 (q := 13) rfl ?_
  refine Jvm.OwnW.aloadN O1 dp2_13 rfl rfl (q := 14) rfl ?_
  refine Jvm.OwnW.iloadN O1 dp2_14 rfl (q := 15) rfl ?_
  refine Jvm.OwnW.iconst O1 dp2_15 (r := (1 : Int32)) rfl (q := 16) rfl ?_
  refine Jvm.OwnW.iadd O1 dp2_16 rfl (q := 17) rfl ?_
  refine Jvm.OwnW.iload O1 dp2_17 rfl (q := 19) rfl ?_
  refine Jvm.OwnW.basA O1 dp2_19 V_a1 (i := (i + 1)) (by rw [add32 (by rw [hi]; show _ ≤ _ + (1 : Int); omega) (by rw [hi]; show _ + (1 : Int) < _; omega), hi]; rfl) (by omega) (Or.inl (List.mem_cons_self ..)) (y := x1) bx1 (q := 20) rfl ?_
  intro T2 h2 O2 W2
  have V_a1 := V_a1.setL W2 (by omega) (by first | omega | (simp only [List.length_set]; omega))
  refine Jvm.OwnW.iloadN O2 dp2_20 rfl (q := 21) rfl ?_
  refine Jvm.OwnW.iconst O2 dp2_21 (r := (2 : Int32)) rfl (q := 22) rfl ?_
  refine Jvm.OwnW.icmpYes O2 dp2_22 (flt (show ¬ ((2 : Int32) < (2 : Int32)) from (by decide))).2.2.2 (by decide) (q := 32) rfl ?_
  exact Jvm.OwnW.ret0 O2 dp2_32 (by decide) (by decide) ⟨rfl, V_a1⟩
theorem dp3_0 : decode method_3_code 0 = .ok (.iload_n 2, 1) := by decide +kernel
theorem dp3_1 : decode method_3_code 1 = .ok (.ifCond .le 7, 3) := by decide +kernel
theorem dp3_4 : decode method_3_code 4 = .ok (.aload_n 0, 1) := by decide +kernel
theorem dp3_5 : decode method_3_code 5 = .ok (.iload_n 1, 1) := by decide +kernel
theorem dp3_6 : decode method_3_code 6 = .ok (.iload_n 3, 1) := by decide +kernel
theorem dp3_7 : decode method_3_code 7 = .ok (.bastore, 1) := by decide +kernel
theorem dp3_8 : decode method_3_code 8 = .ok (.iload_n 2, 1) := by decide +kernel
theorem dp3_9 : decode method_3_code 9 = .ok (.iconst 1, 1) := by decide +kernel
theorem dp3_10 : decode method_3_code 10 = .ok (.if_icmp .le 10, 3) := by decide +kernel
theorem dp3_13 : decode method_3_code 13 = .ok (.aload_n 0, 1) := by decide +kernel
theorem dp3_14 : decode method_3_code 14 = .ok (.iload_n 1, 1) := by decide +kernel
theorem dp3_15 : decode method_3_code 15 = .ok (.iconst 1, 1) := by decide +kernel
theorem dp3_16 : decode method_3_code 16 = .ok (.iadd, 1) := by decide +kernel
theorem dp3_17 : decode method_3_code 17 = .ok (.iload 4, 2) := by decide +kernel
theorem dp3_19 : decode method_3_code 19 = .ok (.bastore, 1) := by decide +kernel
theorem dp3_20 : decode method_3_code 20 = .ok (.iload_n 2, 1) := by decide +kernel
theorem dp3_21 : decode method_3_code 21 = .ok (.iconst 2, 1) := by decide +kernel
theorem dp3_22 : decode method_3_code 22 = .ok (.if_icmp .le 10, 3) := by decide +kernel
theorem dp3_25 : decode method_3_code 25 = .ok (.aload_n 0, 1) := by decide +kernel
theorem dp3_26 : decode method_3_code 26 = .ok (.iload_n 1, 1) := by decide +kernel
theorem dp3_27 : decode method_3_code 27 = .ok (.iconst 2, 1) := by decide +kernel
theorem dp3_28 : decode method_3_code 28 = .ok (.iadd, 1) := by decide +kernel
theorem dp3_29 : decode method_3_code 29 = .ok (.iload 5, 2) := by decide +kernel
theorem dp3_31 : decode method_3_code 31 = .ok (.bastore, 1) := by decide +kernel
theorem dp3_32 : decode method_3_code 32 = .ok (.return_, 1) := by decide +kernel
theorem ef_p3 (a1 : Addr) (p2 : Int32) (x0 : Int32) (x1 : Int32) (x2 : Int32) (m : MethodId) : entryFrame m #[(.ref a1), (.int p2), (.int (3 : Int32)), (.int x0), (.int x1), (.int x2)] 6 = mkF m 0 #[.val (.ref a1), .val (.int p2), .val (.int (3 : Int32)), .val (.int x0), .val (.int x1), .val (.int x2)] [] := by first | (simp [entryFrame, mkF, argsToLocals, Value.category, maxLocals]; done) | rfl
theorem pn_p3 : plainFor (⟨"com/example/lamina/lamina/table/TextVectorHashAtPinLaw", "put", "([BIIBBB)V"⟩ : MethodName) = true := by first | exact plainFor_of_name (by first | (simp [plainName, overriddenIn]; done) | decide +kernel) | decide +kernel
set_option maxRecDepth 65536 in
set_option maxHeartbeats 40000000 in
theorem rm_p3 (l : Launch) (Z : State) (a0 : Array Value) (hw : ∀ d ∈ tables_1, d.before a0 Z = true) (a1 : Addr) (p2 : Int32) (x0 : Int32) (x1 : Int32) (x2 : Int32) (i : Nat) (L : List Value) (h0 : Heap) (V_a1 : Ar Z h0 a1 .byte 9 (lf L)) (hL : L.length = 9) (hi : p2.toInt = (i : Int)) (hn : i + 3 ≤ 9) (bx0 : x0.toInt8.toInt32 = x0) (bx1 : x1.toInt8.toInt32 = x1) (bx2 : x2.toInt8.toInt32 = x2) :
    Met l Z (⟨"com/example/lamina/lamina/table/TextVectorHashAtPinLaw", "put", "([BIIBBB)V"⟩ : MethodName) method_3_code 6 none [] ({ frames := 0, cells := 0, slots := 0, locals := 0 } : Room) #[(.ref a1), (.int p2), (.int (3 : Int32)), (.int x0), (.int x1), (.int x2)] [a1] h0 (fun v h => v = none ∧ Ar Z h a1 .byte 9 (lf (((L.set i (.int x0)).set (i + 1) (.int x1)).set (i + 2) (.int x2)))) := by
  refine Met.mk pn_p3 (ef_p3 a1 p2 x0 x1 x2) ?_
  intro C T hs0 O
  show Go C [a1] (fun v h => v = none ∧ Ar Z h a1 .byte 9 (lf (((L.set i (.int x0)).set (i + 1) (.int x1)).set (i + 2) (.int x2)))) 0 0 (T.setTop (mkF C.m 0 #[.val (.ref a1), .val (.int p2), .val (.int (3 : Int32)), .val (.int x0), .val (.int x1), .val (.int x2)] []))
  refine Jvm.OwnW.iloadN O dp3_0 rfl (q := 1) rfl ?_
  refine Jvm.OwnW.ifNo O dp3_1 (tgt0 (show (0 : Int32) < (3 : Int32) from (by decide))).2 (q := 4) rfl ?_
  refine Jvm.OwnW.aloadN O dp3_4 rfl rfl (q := 5) rfl ?_
  refine Jvm.OwnW.iloadN O dp3_5 rfl (q := 6) rfl ?_
  refine Jvm.OwnW.iloadN O dp3_6 rfl (q := 7) rfl ?_
  refine Jvm.OwnW.basA O dp3_7 V_a1 (i := i) hi (by omega) (Or.inl (List.mem_cons_self ..)) (y := x0) bx0 (q := 8) rfl ?_
  intro T1 h1 O1 W1
  have V_a1 := V_a1.setL W1 (by omega) (by first | omega | (simp only [List.length_set]; omega))
  refine Jvm.OwnW.iloadN O1 dp3_8 rfl (q := 9) rfl ?_
  refine Jvm.OwnW.iconst O1 dp3_9 (r := (1 : Int32)) rfl (q := 10) rfl ?_
  refine Jvm.OwnW.icmpNo O1 dp3_10 (tlt (show (1 : Int32) < (3 : Int32) from (by decide))).2.2.2 (q := 13) rfl ?_
  refine Jvm.OwnW.aloadN O1 dp3_13 rfl rfl (q := 14) rfl ?_
  refine Jvm.OwnW.iloadN O1 dp3_14 rfl (q := 15) rfl ?_
  refine Jvm.OwnW.iconst O1 dp3_15 (r := (1 : Int32)) rfl (q := 16) rfl ?_
  refine Jvm.OwnW.iadd O1 dp3_16 rfl (q := 17) rfl ?_
  refine Jvm.OwnW.iload O1 dp3_17 rfl (q := 19) rfl ?_
  refine Jvm.OwnW.basA O1 dp3_19 V_a1 (i := (i + 1)) (by rw [add32 (by rw [hi]; show _ ≤ _ + (1 : Int); omega) (by rw [hi]; show _ + (1 : Int) < _; omega), hi]; rfl) (by omega) (Or.inl (List.mem_cons_self ..)) (y := x1) bx1 (q := 20) rfl ?_
  intro T2 h2 O2 W2
  have V_a1 := V_a1.setL W2 (by omega) (by first | omega | (simp only [List.length_set]; omega))
  refine Jvm.OwnW.iloadN O2 dp3_20 rfl (q := 21) rfl ?_
  refine Jvm.OwnW.iconst O2 dp3_21 (r := (2 : Int32)) rfl (q := 22) rfl ?_
  refine Jvm.OwnW.icmpNo O2 dp3_22 (tlt (show (2 : Int32) < (3 : Int32) from (by decide))).2.2.2 (q := 25) rfl ?_
  refine Jvm.OwnW.aloadN O2 dp3_25 rfl rfl (q := 26) rfl ?_
  refine Jvm.OwnW.iloadN O2 dp3_26 rfl (q := 27) rfl ?_
  refine Jvm.OwnW.iconst O2 dp3_27 (r := (2 : Int32)) rfl (q := 28) rfl ?_
  refine Jvm.OwnW.iadd O2 dp3_28 rfl (q := 29) rfl ?_
  refine Jvm.OwnW.iload O2 dp3_29 rfl (q := 31) rfl ?_
  refine Jvm.OwnW.basA O2 dp3_31 V_a1 (i := (i + 2)) (by rw [add32 (by rw [hi]; show _ ≤ _ + (2 : Int); omega) (by rw [hi]; show _ + (2 : Int) < _; omega), hi]; rfl) (by omega) (Or.inl (List.mem_cons_self ..)) (y := x2) bx2 (q := 32) rfl ?_
  intro T3 h3 O3 W3
  have V_a1 := V_a1.setL W3 (by omega) (by first | omega | (simp only [List.length_set]; omega))
  exact Jvm.OwnW.ret0 O3 dp3_32 (by decide) (by decide) ⟨rfl, V_a1⟩
theorem di_0 : decode prog_90_method_1_code 0 = .ok (.aload_n 0, 1) := by decide +kernel
theorem di_1 : decode prog_90_method_1_code 1 = .ok (.invokespecial 1, 3) := by decide +kernel
theorem di_4 : decode prog_90_method_1_code 4 = .ok (.aload_n 0, 1) := by decide +kernel
theorem di_5 : decode prog_90_method_1_code 5 = .ok (.iconst 0, 1) := by decide +kernel
theorem di_6 : decode prog_90_method_1_code 6 = .ok (.newarray .byte, 2) := by decide +kernel
theorem di_8 : decode prog_90_method_1_code 8 = .ok (.putfield 7, 3) := by decide +kernel
theorem di_11 : decode prog_90_method_1_code 11 = .ok (.aload_n 0, 1) := by decide +kernel
theorem di_12 : decode prog_90_method_1_code 12 = .ok (.iconst 1, 1) := by decide +kernel
theorem di_13 : decode prog_90_method_1_code 13 = .ok (.newarray .int, 2) := by decide +kernel
theorem di_15 : decode prog_90_method_1_code 15 = .ok (.putfield 13, 3) := by decide +kernel
theorem di_18 : decode prog_90_method_1_code 18 = .ok (.return_, 1) := by decide +kernel
theorem ef_i (a1 : Addr) (m : MethodId) : entryFrame m #[(.ref a1)] 1 = mkF m 0 #[.val (.ref a1)] [] := by first | (simp [entryFrame, mkF, argsToLocals, Value.category, maxLocals]; done) | rfl
theorem pn_i : plainFor (⟨"com/example/lamina/lamina/table/TextVector", "<init>", "()V"⟩ : MethodName) = true := by first | exact plainFor_of_name (by first | (simp [plainName, overriddenIn]; done) | decide +kernel) | decide +kernel
set_option maxRecDepth 65536 in
set_option maxHeartbeats 40000000 in
theorem rm_i (l : Launch) (Z : State) (a0 : Array Value) (hw : ∀ d ∈ tables_1, d.before a0 Z = true) (a1 : Addr) (h0 : Heap) (E_a1 : Exa Z h0 a1 "com/example/lamina/lamina/table/TextVector") (F_data_a1 : Fld Z h0 a1 "com/example/lamina/lamina/table/TextVector" "data" "[B" .null) (F_offsets_a1 : Fld Z h0 a1 "com/example/lamina/lamina/table/TextVector" "offsets" "[I" .null) (F_size_a1 : Fld Z h0 a1 "com/example/lamina/lamina/table/TextVector" "size" "I" (.int (0 : Int32))) :
    Met l Z (⟨"com/example/lamina/lamina/table/TextVector", "<init>", "()V"⟩ : MethodName) prog_90_method_1_code 1 none [] ({ frames := 1, cells := 2, slots := 1, locals := 12 } : Room) #[(.ref a1)] [a1] h0 (fun v h => v = none ∧ ∃ b c, Fld Z h a1 "com/example/lamina/lamina/table/TextVector" "data" "[B" (.ref b) ∧ Fld Z h a1 "com/example/lamina/lamina/table/TextVector" "offsets" "[I" (.ref c) ∧ Fld Z h a1 "com/example/lamina/lamina/table/TextVector" "size" "I" (.int (0 : Int32))) := by
  refine Met.mk pn_i (ef_i a1) ?_
  intro C T hs0 O
  show Go C [a1] (fun v h => v = none ∧ ∃ b c, Fld Z h a1 "com/example/lamina/lamina/table/TextVector" "data" "[B" (.ref b) ∧ Fld Z h a1 "com/example/lamina/lamina/table/TextVector" "offsets" "[I" (.ref c) ∧ Fld Z h a1 "com/example/lamina/lamina/table/TextVector" "size" "I" (.int (0 : Int32))) 2 1 (T.setTop (mkF C.m 0 #[.val (.ref a1)] []))
  refine Jvm.OwnW.aloadN O di_0 rfl rfl (q := 1) rfl ?_
  refine Jvm.OwnW.initO O di_1 (hw _ (List.mem_of_getElem? (i := 12) rfl)) (hw _ (List.mem_of_getElem? (i := 13) rfl)) (hw _ (List.mem_of_getElem? (i := 14) rfl)) rfl (by decide) (W := 0) (Nat.le_of_eq rfl) (by decide) (q := 4) rfl ?_
  intro T1 O1
  refine Jvm.OwnW.aloadN O1 di_4 rfl rfl (q := 5) rfl ?_
  refine Jvm.OwnW.iconst O1 di_5 (r := (0 : Int32)) rfl (q := 6) rfl ?_
  refine Jvm.OwnW.newA' O1 di_6 (ty := .byte) rfl (hw _ (List.mem_of_getElem? (i := 0) rfl)) (N := 0) rfl (cap := 0) (by decide) (by decide) (c2 := 1) (s2 := 0) rfl rfl (by decide) (by decide) (q := 8) rfl ?_
  intro a2 T2 h2 g2 N2 O2 X2 V_a2
  have ne_a1_a2 : a1 ≠ a2 := Nat.ne_of_lt (Nat.lt_of_lt_of_le E_a1.lt (Nat.le_of_eq g2.symm))
  have E_a1 := E_a1.ext X2
  have F_data_a1 := F_data_a1.ext X2
  have F_offsets_a1 := F_offsets_a1.ext X2
  have F_size_a1 := F_size_a1.ext X2
  have V_a2 : Ar Z h2 a2 .byte 0 (lf []) := V_a2.congr (lf_rep 0 _)
  refine Jvm.OwnW.putF O2 di_8 (host := "") (Or.inl (hw _ (List.mem_of_getElem? (i := 15) rfl))) Via.refl F_data_a1 E_a1 (Or.inl (hw _ (List.mem_of_getElem? (i := 16) rfl))) (hw _ (List.mem_of_getElem? (i := 7) rfl)) (ty := (.array .byte)) (by decide) rfl rfl (Or.inl (List.mem_cons_self ..)) (q := 11) rfl ?_
  intro T3 h3 O3 W3
  have E_a1 := E_a1.wr W3
  have F_data_a1 := F_data_a1.same W3
  have F_offsets_a1 := F_offsets_a1.other W3 (Or.inr (slot_ne (Or.inl (hw _ (List.mem_of_getElem? (i := 18) rfl))) (Or.inl (hw _ (List.mem_of_getElem? (i := 16) rfl))) (by decide) (t := (.array .int)) (t' := (.array .byte)) (by decide) (by decide)))
  have F_size_a1 := F_size_a1.other W3 (Or.inr (slot_ne (Or.inl (hw _ (List.mem_of_getElem? (i := 25) rfl))) (Or.inl (hw _ (List.mem_of_getElem? (i := 16) rfl))) (by decide) (t := .int) (t' := (.array .byte)) (by decide) (by decide)))
  have V_a2 := V_a2.other W3 (Ne.symm ne_a1_a2)
  refine Jvm.OwnW.aloadN O3 di_11 rfl rfl (q := 12) rfl ?_
  refine Jvm.OwnW.iconst O3 di_12 (r := (1 : Int32)) rfl (q := 13) rfl ?_
  refine Jvm.OwnW.newA' O3 di_13 (ty := .int) rfl (hw _ (List.mem_of_getElem? (i := 5) rfl)) (N := 1) rfl (cap := 1) (by decide) (by decide) (c2 := 2) (s2 := 1) rfl rfl (by decide) (by decide) (q := 15) rfl ?_
  intro a4 T4 h4 g4 N4 O4 X4 V_a4
  have ne_a1_a4 : a1 ≠ a4 := Nat.ne_of_lt (Nat.lt_of_lt_of_le E_a1.lt (Nat.le_of_eq g4.symm))
  have ne_a2_a4 : a2 ≠ a4 := Nat.ne_of_lt (Nat.lt_of_lt_of_le V_a2.lt (Nat.le_of_eq g4.symm))
  have E_a1 := E_a1.ext X4
  have F_data_a1 := F_data_a1.ext X4
  have F_offsets_a1 := F_offsets_a1.ext X4
  have F_size_a1 := F_size_a1.ext X4
  have V_a2 := V_a2.ext X4
  have V_a4 : Ar Z h4 a4 .int 1 (lf [(.int (0 : Int32))]) := V_a4.congr (lf_rep 1 _)
  refine Jvm.OwnW.putF O4 di_15 (host := "") (Or.inl (hw _ (List.mem_of_getElem? (i := 17) rfl))) Via.refl F_offsets_a1 E_a1 (Or.inl (hw _ (List.mem_of_getElem? (i := 18) rfl))) (hw _ (List.mem_of_getElem? (i := 7) rfl)) (ty := (.array .int)) (by decide) rfl rfl (Or.inl (List.mem_cons_self ..)) (q := 18) rfl ?_
  intro T5 h5 O5 W5
  have E_a1 := E_a1.wr W5
  have F_data_a1 := F_data_a1.other W5 (Or.inr (slot_ne (Or.inl (hw _ (List.mem_of_getElem? (i := 16) rfl))) (Or.inl (hw _ (List.mem_of_getElem? (i := 18) rfl))) (by decide) (t := (.array .byte)) (t' := (.array .int)) (by decide) (by decide)))
  have F_offsets_a1 := F_offsets_a1.same W5
  have F_size_a1 := F_size_a1.other W5 (Or.inr (slot_ne (Or.inl (hw _ (List.mem_of_getElem? (i := 25) rfl))) (Or.inl (hw _ (List.mem_of_getElem? (i := 18) rfl))) (by decide) (t := .int) (t' := (.array .int)) (by decide) (by decide)))
  have V_a2 := V_a2.other W5 (Ne.symm ne_a1_a2)
  have V_a4 := V_a4.other W5 (Ne.symm ne_a1_a4)
  exact Jvm.OwnW.ret0 O5 di_18 (by decide) (by decide) ⟨rfl, _, _, F_data_a1, F_offsets_a1, F_size_a1⟩
theorem dr_0 : decode prog_90_method_2_code 0 = .ok (.aload_n 0, 1) := by decide +kernel
theorem dr_1 : decode prog_90_method_2_code 1 = .ok (.aload_n 1, 1) := by decide +kernel
theorem dr_2 : decode prog_90_method_2_code 2 = .ok (.putfield 7, 3) := by decide +kernel
theorem dr_5 : decode prog_90_method_2_code 5 = .ok (.aload_n 0, 1) := by decide +kernel
theorem dr_6 : decode prog_90_method_2_code 6 = .ok (.aload_n 2, 1) := by decide +kernel
theorem dr_7 : decode prog_90_method_2_code 7 = .ok (.putfield 13, 3) := by decide +kernel
theorem dr_10 : decode prog_90_method_2_code 10 = .ok (.aload_n 0, 1) := by decide +kernel
theorem dr_11 : decode prog_90_method_2_code 11 = .ok (.iload_n 3, 1) := by decide +kernel
theorem dr_12 : decode prog_90_method_2_code 12 = .ok (.putfield 17, 3) := by decide +kernel
theorem dr_15 : decode prog_90_method_2_code 15 = .ok (.return_, 1) := by decide +kernel
theorem ef_r (a1 : Addr) (a2 : Addr) (a3 : Addr) (p4 : Int32) (m : MethodId) : entryFrame m #[(.ref a1), (.ref a2), (.ref a3), (.int p4)] 4 = mkF m 0 #[.val (.ref a1), .val (.ref a2), .val (.ref a3), .val (.int p4)] [] := by first | (simp [entryFrame, mkF, argsToLocals, Value.category, maxLocals]; done) | rfl
theorem pn_r : plainFor (⟨"com/example/lamina/lamina/table/TextVector", "reset", "([B[II)V"⟩ : MethodName) = true := by first | exact plainFor_of_name (by first | (simp [plainName, overriddenIn]; done) | decide +kernel) | decide +kernel
set_option maxRecDepth 65536 in
set_option maxHeartbeats 40000000 in
theorem rm_r (l : Launch) (Z : State) (a0 : Array Value) (hw : ∀ d ∈ tables_1, d.before a0 Z = true) (a1 : Addr) (a2 : Addr) (a3 : Addr) (p4 : Int32) (u1 u2 u3 : Value) (h0 : Heap) (E_a1 : Exa Z h0 a1 "com/example/lamina/lamina/table/TextVector") (F_data_a1 : Fld Z h0 a1 "com/example/lamina/lamina/table/TextVector" "data" "[B" u1) (F_offsets_a1 : Fld Z h0 a1 "com/example/lamina/lamina/table/TextVector" "offsets" "[I" u2) (F_size_a1 : Fld Z h0 a1 "com/example/lamina/lamina/table/TextVector" "size" "I" u3) :
    Met l Z (⟨"com/example/lamina/lamina/table/TextVector", "reset", "([B[II)V"⟩ : MethodName) prog_90_method_2_code 4 none [] ({ frames := 0, cells := 0, slots := 0, locals := 0 } : Room) #[(.ref a1), (.ref a2), (.ref a3), (.int p4)] [a1] h0 (fun v h => v = none ∧ Fld Z h a1 "com/example/lamina/lamina/table/TextVector" "data" "[B" (.ref a2) ∧ Fld Z h a1 "com/example/lamina/lamina/table/TextVector" "offsets" "[I" (.ref a3) ∧ Fld Z h a1 "com/example/lamina/lamina/table/TextVector" "size" "I" (.int p4)) := by
  refine Met.mk pn_r (ef_r a1 a2 a3 p4) ?_
  intro C T hs0 O
  show Go C [a1] (fun v h => v = none ∧ Fld Z h a1 "com/example/lamina/lamina/table/TextVector" "data" "[B" (.ref a2) ∧ Fld Z h a1 "com/example/lamina/lamina/table/TextVector" "offsets" "[I" (.ref a3) ∧ Fld Z h a1 "com/example/lamina/lamina/table/TextVector" "size" "I" (.int p4)) 0 0 (T.setTop (mkF C.m 0 #[.val (.ref a1), .val (.ref a2), .val (.ref a3), .val (.int p4)] []))
  refine Jvm.OwnW.aloadN O dr_0 rfl rfl (q := 1) rfl ?_
  refine Jvm.OwnW.aloadN O dr_1 rfl rfl (q := 2) rfl ?_
  refine Jvm.OwnW.putF O dr_2 (host := "") (Or.inl (hw _ (List.mem_of_getElem? (i := 15) rfl))) Via.refl F_data_a1 E_a1 (Or.inl (hw _ (List.mem_of_getElem? (i := 16) rfl))) (hw _ (List.mem_of_getElem? (i := 7) rfl)) (ty := (.array .byte)) (by decide) rfl rfl (Or.inl (List.mem_cons_self ..)) (q := 5) rfl ?_
  intro T1 h1 O1 W1
  have E_a1 := E_a1.wr W1
  have F_data_a1 := F_data_a1.same W1
  have F_offsets_a1 := F_offsets_a1.other W1 (Or.inr (slot_ne (Or.inl (hw _ (List.mem_of_getElem? (i := 18) rfl))) (Or.inl (hw _ (List.mem_of_getElem? (i := 16) rfl))) (by decide) (t := (.array .int)) (t' := (.array .byte)) (by decide) (by decide)))
  have F_size_a1 := F_size_a1.other W1 (Or.inr (slot_ne (Or.inl (hw _ (List.mem_of_getElem? (i := 25) rfl))) (Or.inl (hw _ (List.mem_of_getElem? (i := 16) rfl))) (by decide) (t := .int) (t' := (.array .byte)) (by decide) (by decide)))
  refine Jvm.OwnW.aloadN O1 dr_5 rfl rfl (q := 6) rfl ?_
  refine Jvm.OwnW.aloadN O1 dr_6 rfl rfl (q := 7) rfl ?_
  refine Jvm.OwnW.putF O1 dr_7 (host := "") (Or.inl (hw _ (List.mem_of_getElem? (i := 17) rfl))) Via.refl F_offsets_a1 E_a1 (Or.inl (hw _ (List.mem_of_getElem? (i := 18) rfl))) (hw _ (List.mem_of_getElem? (i := 7) rfl)) (ty := (.array .int)) (by decide) rfl rfl (Or.inl (List.mem_cons_self ..)) (q := 10) rfl ?_
  intro T2 h2 O2 W2
  have E_a1 := E_a1.wr W2
  have F_data_a1 := F_data_a1.other W2 (Or.inr (slot_ne (Or.inl (hw _ (List.mem_of_getElem? (i := 16) rfl))) (Or.inl (hw _ (List.mem_of_getElem? (i := 18) rfl))) (by decide) (t := (.array .byte)) (t' := (.array .int)) (by decide) (by decide)))
  have F_offsets_a1 := F_offsets_a1.same W2
  have F_size_a1 := F_size_a1.other W2 (Or.inr (slot_ne (Or.inl (hw _ (List.mem_of_getElem? (i := 25) rfl))) (Or.inl (hw _ (List.mem_of_getElem? (i := 18) rfl))) (by decide) (t := .int) (t' := (.array .int)) (by decide) (by decide)))
  refine Jvm.OwnW.aloadN O2 dr_10 rfl rfl (q := 11) rfl ?_
  refine Jvm.OwnW.iloadN O2 dr_11 rfl (q := 12) rfl ?_
  refine Jvm.OwnW.putF O2 dr_12 (host := "") (Or.inl (hw _ (List.mem_of_getElem? (i := 24) rfl))) Via.refl F_size_a1 E_a1 (Or.inl (hw _ (List.mem_of_getElem? (i := 25) rfl))) (hw _ (List.mem_of_getElem? (i := 7) rfl)) (ty := .int) (by decide) rfl rfl (Or.inl (List.mem_cons_self ..)) (q := 15) rfl ?_
  intro T3 h3 O3 W3
  have E_a1 := E_a1.wr W3
  have F_data_a1 := F_data_a1.other W3 (Or.inr (slot_ne (Or.inl (hw _ (List.mem_of_getElem? (i := 16) rfl))) (Or.inl (hw _ (List.mem_of_getElem? (i := 25) rfl))) (by decide) (t := (.array .byte)) (t' := .int) (by decide) (by decide)))
  have F_offsets_a1 := F_offsets_a1.other W3 (Or.inr (slot_ne (Or.inl (hw _ (List.mem_of_getElem? (i := 18) rfl))) (Or.inl (hw _ (List.mem_of_getElem? (i := 25) rfl))) (by decide) (t := (.array .int)) (t' := .int) (by decide) (by decide)))
  have F_size_a1 := F_size_a1.same W3
  exact Jvm.OwnW.ret0 O3 dr_15 (by decide) (by decide) ⟨rfl, F_data_a1, F_offsets_a1, F_size_a1⟩
def own_hash (g : Nat → Int32) : Nat → Nat → Int32 → Int32
  | _, 0, acc => acc
  | i, k + 1, acc => own_hash g (i + 1) k (31 * acc + g i)
theorem dh_0 : decode prog_90_method_10_code 0 = .ok (.iconst 1, 1) := by decide +kernel
theorem dh_1 : decode prog_90_method_10_code 1 = .ok (.istore_n 2, 1) := by decide +kernel
theorem dh_2 : decode prog_90_method_10_code 2 = .ok (.aload_n 0, 1) := by decide +kernel
theorem dh_3 : decode prog_90_method_10_code 3 = .ok (.getfield 13, 3) := by decide +kernel
theorem dh_6 : decode prog_90_method_10_code 6 = .ok (.iload_n 1, 1) := by decide +kernel
theorem dh_7 : decode prog_90_method_10_code 7 = .ok (.iaload, 1) := by decide +kernel
theorem dh_8 : decode prog_90_method_10_code 8 = .ok (.istore_n 3, 1) := by decide +kernel
theorem dh_9 : decode prog_90_method_10_code 9 = .ok (.iload_n 3, 1) := by decide +kernel
theorem dh_10 : decode prog_90_method_10_code 10 = .ok (.aload_n 0, 1) := by decide +kernel
theorem dh_11 : decode prog_90_method_10_code 11 = .ok (.getfield 13, 3) := by decide +kernel
theorem dh_14 : decode prog_90_method_10_code 14 = .ok (.iload_n 1, 1) := by decide +kernel
theorem dh_15 : decode prog_90_method_10_code 15 = .ok (.iconst 1, 1) := by decide +kernel
theorem dh_16 : decode prog_90_method_10_code 16 = .ok (.iadd, 1) := by decide +kernel
theorem dh_17 : decode prog_90_method_10_code 17 = .ok (.iaload, 1) := by decide +kernel
theorem dh_18 : decode prog_90_method_10_code 18 = .ok (.if_icmp .ge 21, 3) := by decide +kernel
theorem dh_21 : decode prog_90_method_10_code 21 = .ok (.bipush 31, 2) := by decide +kernel
theorem dh_23 : decode prog_90_method_10_code 23 = .ok (.iload_n 2, 1) := by decide +kernel
theorem dh_24 : decode prog_90_method_10_code 24 = .ok (.imul, 1) := by decide +kernel
theorem dh_25 : decode prog_90_method_10_code 25 = .ok (.aload_n 0, 1) := by decide +kernel
theorem dh_26 : decode prog_90_method_10_code 26 = .ok (.getfield 7, 3) := by decide +kernel
theorem dh_29 : decode prog_90_method_10_code 29 = .ok (.iload_n 3, 1) := by decide +kernel
theorem dh_30 : decode prog_90_method_10_code 30 = .ok (.baload, 1) := by decide +kernel
theorem dh_31 : decode prog_90_method_10_code 31 = .ok (.iadd, 1) := by decide +kernel
theorem dh_32 : decode prog_90_method_10_code 32 = .ok (.istore_n 2, 1) := by decide +kernel
theorem dh_33 : decode prog_90_method_10_code 33 = .ok (.iinc 3 1, 3) := by decide +kernel
theorem dh_36 : decode prog_90_method_10_code 36 = .ok (.goto (-27), 3) := by decide +kernel
theorem dh_39 : decode prog_90_method_10_code 39 = .ok (.iload_n 2, 1) := by decide +kernel
theorem dh_40 : decode prog_90_method_10_code 40 = .ok (.ireturn, 1) := by decide +kernel
theorem ef_h (a1 : Addr) (p2 : Int32) (a2 a3 : Addr) (m : MethodId) : entryFrame m #[(.ref a1), (.int p2)] 4 = mkF m 0 #[.val (.ref a1), .val (.int p2), .unset, .unset] [] := by first | (simp [entryFrame, mkF, argsToLocals, Value.category, maxLocals]; done) | rfl
theorem pn_h : plainFor (⟨"com/example/lamina/lamina/table/TextVector", "hashAt", "(I)I"⟩ : MethodName) = true := by first | exact plainFor_of_name (by first | (simp [plainName, overriddenIn]; done) | decide +kernel) | decide +kernel
set_option maxRecDepth 65536 in
set_option maxHeartbeats 40000000 in
theorem rm_h (l : Launch) (Z : State) (a0 : Array Value) (hw : ∀ d ∈ tables_1, d.before a0 Z = true) (a1 : Addr) (p2 : Int32) (a2 a3 : Addr) (N M n lo hiN : Nat) (g o : Nat → Int32) (h0 : Heap) (E_a1 : Exa Z h0 a1 "com/example/lamina/lamina/table/TextVector") (F_data_a1 : Fld Z h0 a1 "com/example/lamina/lamina/table/TextVector" "data" "[B" (.ref a2)) (F_offsets_a1 : Fld Z h0 a1 "com/example/lamina/lamina/table/TextVector" "offsets" "[I" (.ref a3)) (V_a2 : Ar Z h0 a2 .byte N (fun j => .int (g j))) (V_a3 : Ar Z h0 a3 .int M (fun j => .int (o j))) (hn : p2.toInt = (n : Int)) (hn1 : n + 1 < M) (hlo : (o n).toInt = (lo : Int)) (hhi : (o (n + 1)).toInt = (hiN : Int)) (hle : lo ≤ hiN) (hlN : hiN ≤ N) :
    Met l Z (⟨"com/example/lamina/lamina/table/TextVector", "hashAt", "(I)I"⟩ : MethodName) prog_90_method_10_code 4 (some .int) [] ({ frames := 0, cells := 0, slots := 0, locals := 0 } : Room) #[(.ref a1), (.int p2)] [] h0 (fun v h => v = some (.int (own_hash g lo (hiN - lo) 1))) := by
  refine Met.mk pn_h (ef_h a1 p2 a2 a3) ?_
  intro C T hs0 O
  have hM := V_a3.small
  have hN := V_a2.small
  show Go C [] (fun v h => v = some (.int (own_hash g lo (hiN - lo) 1))) 0 0 (T.setTop (mkF C.m 0 #[.val (.ref a1), .val (.int p2), .unset, .unset] []))
  refine Jvm.OwnW.iconst O dh_0 (r := (1 : Int32)) rfl (q := 1) rfl ?_
  refine Jvm.OwnW.istoreN O dh_1 (L' := #[.val (.ref a1), .val (.int p2), .val (.int (1 : Int32)), .unset]) rfl (q := 2) rfl ?_
  refine Jvm.OwnW.aloadN O dh_2 rfl rfl (q := 3) rfl ?_
  refine Jvm.OwnW.getF O dh_3 (host := "") (Or.inl (hw _ (List.mem_of_getElem? (i := 17) rfl))) Via.refl F_offsets_a1 (q := 6) rfl ?_
  intro T1 O1
  refine Jvm.OwnW.iloadN O1 dh_6 rfl (q := 7) rfl ?_
  refine Jvm.OwnW.ialA O1 dh_7 V_a3 (i := n) hn (by omega) (v := (.int (o n))) rfl (q := 8) rfl ?_
  refine Jvm.OwnW.istoreN O1 dh_8 (L' := #[.val (.ref a1), .val (.int p2), .val (.int (1 : Int32)), .val (.int (o n))]) rfl (q := 9) rfl ?_
  have lp : ∀ (k : Nat) (T2 : State), On l Z [] ({ frames := 0, cells := 0, slots := 0, locals := 0 } : Room) "com/example/lamina/lamina/table/TextVector" "hashAt" prog_90_method_10_code 4 (some .int) C T2 h0 0 0 → ∀ (i : Nat), ∀ (z : Int32), ∀ (acc : Int32), ∀ (hi : z.toInt = (i : Int)), ∀ (hk : i + k = hiN), ∀ (hacc : own_hash g i k acc = own_hash g lo (hiN - lo) 1), Go C [] (fun v h => v = some (.int (own_hash g lo (hiN - lo) 1))) 0 0 (T2.setTop (mkF C.m 9 #[.val (.ref a1), .val (.int p2), .val (.int acc), .val (.int z)] [])) := by
    intro k
    induction k with
    | zero =>
      intro T2 O2 i z acc hi hk hacc 
      refine Jvm.OwnW.iloadN O2 dh_9 rfl (q := 10) rfl ?_
      refine Jvm.OwnW.aloadN O2 dh_10 rfl rfl (q := 11) rfl ?_
      refine Jvm.OwnW.getF O2 dh_11 (host := "") (Or.inl (hw _ (List.mem_of_getElem? (i := 17) rfl))) Via.refl F_offsets_a1 (q := 14) rfl ?_
      intro T3 O3
      refine Jvm.OwnW.iloadN O3 dh_14 rfl (q := 15) rfl ?_
      refine Jvm.OwnW.iconst O3 dh_15 (r := (1 : Int32)) rfl (q := 16) rfl ?_
      refine Jvm.OwnW.iadd O3 dh_16 rfl (q := 17) rfl ?_
      refine Jvm.OwnW.ialA O3 dh_17 V_a3 (i := (n + 1)) (by rw [add32 (by rw [hn]; show _ ≤ _ + (1 : Int); omega) (by rw [hn]; show _ + (1 : Int) < _; omega), hn]; rfl) (by omega) (v := (.int (o (n + 1)))) rfl (q := 18) rfl ?_
      refine Jvm.OwnW.icmpYes O3 dh_18 (flt (show ¬ (z < (o (n + 1))) from nlt32 (by omega))).2.1 (by decide) (q := 39) rfl ?_
      refine Jvm.OwnW.iloadN O3 dh_39 rfl (q := 40) rfl ?_
      exact Jvm.OwnW.retI O3 dh_40 hacc (by decide) (by decide) rfl
    | succ k ih =>
      intro T2 O2 i z acc hi hk hacc 
      refine Jvm.OwnW.iloadN O2 dh_9 rfl (q := 10) rfl ?_
      refine Jvm.OwnW.aloadN O2 dh_10 rfl rfl (q := 11) rfl ?_
      refine Jvm.OwnW.getF O2 dh_11 (host := "") (Or.inl (hw _ (List.mem_of_getElem? (i := 17) rfl))) Via.refl F_offsets_a1 (q := 14) rfl ?_
      intro T4 O4
      refine Jvm.OwnW.iloadN O4 dh_14 rfl (q := 15) rfl ?_
      refine Jvm.OwnW.iconst O4 dh_15 (r := (1 : Int32)) rfl (q := 16) rfl ?_
      refine Jvm.OwnW.iadd O4 dh_16 rfl (q := 17) rfl ?_
      refine Jvm.OwnW.ialA O4 dh_17 V_a3 (i := (n + 1)) (by rw [add32 (by rw [hn]; show _ ≤ _ + (1 : Int); omega) (by rw [hn]; show _ + (1 : Int) < _; omega), hn]; rfl) (by omega) (v := (.int (o (n + 1)))) rfl (q := 18) rfl ?_
      refine Jvm.OwnW.icmpNo O4 dh_18 (tlt (show z < (o (n + 1)) from lt32 (by omega))).2.1 (q := 21) rfl ?_
      refine Jvm.OwnW.bipush O4 dh_21 (r := (31 : Int32)) rfl (q := 23) rfl ?_
      refine Jvm.OwnW.iloadN O4 dh_23 rfl (q := 24) rfl ?_
      refine Jvm.OwnW.imul O4 dh_24 rfl (q := 25) rfl ?_
      refine Jvm.OwnW.aloadN O4 dh_25 rfl rfl (q := 26) rfl ?_
      refine Jvm.OwnW.getF O4 dh_26 (host := "") (Or.inl (hw _ (List.mem_of_getElem? (i := 15) rfl))) Via.refl F_data_a1 (q := 29) rfl ?_
      intro T5 O5
      refine Jvm.OwnW.iloadN O5 dh_29 rfl (q := 30) rfl ?_
      refine Jvm.OwnW.balA O5 dh_30 V_a2 (i := i) hi (by omega) (v := (.int (g i))) rfl (q := 31) rfl ?_
      refine Jvm.OwnW.iadd O5 dh_31 rfl (q := 32) rfl ?_
      refine Jvm.OwnW.istoreN O5 dh_32 (L' := #[.val (.ref a1), .val (.int p2), .val (.int (((31 : Int32) * acc) + (g i))), .val (.int z)]) rfl (q := 33) rfl ?_
      refine Jvm.OwnW.iinc O5 dh_33 rfl (L' := #[.val (.ref a1), .val (.int p2), .val (.int (((31 : Int32) * acc) + (g i))), .val (.int (z + (1 : Int32)))]) rfl (q := 36) rfl ?_
      refine Jvm.OwnW.goto O5 dh_36 (by decide) (q := 9) rfl ?_
      exact ih _ O5 (i + 1) _ _ (by rw [add32 (by rw [hi]; show _ ≤ _ + (1 : Int); omega) (by rw [hi]; show _ + (1 : Int) < _; omega), hi]; rfl) (by omega) hacc 
  exact lp (hiN - lo) _ O1 lo _ _ hlo (by omega) rfl
theorem own_n (x : Int32) : x &&& 3 = 0 ∨ x &&& 3 = 1 ∨ x &&& 3 = 2 ∨ x &&& 3 = 3 := by
  have h := c_mask x 3 2 (by decide) (by decide)
  have q : (x &&& 3).toInt = 0 ∨ (x &&& 3).toInt = 1 ∨ (x &&& 3).toInt = 2 ∨ (x &&& 3).toInt = 3 := by omega
  rcases q with q | q | q | q
  · exact Or.inl (eq32 q)
  · exact Or.inr (Or.inl (eq32 q))
  · exact Or.inr (Or.inr (Or.inl (eq32 q)))
  · exact Or.inr (Or.inr (Or.inr (eq32 q)))
theorem pd_0 : parseMethodDescriptor "([BIIBBB)V" = some ⟨[(.array .byte), .int, .int, .byte, .byte, .byte], none⟩ := by decide +kernel
theorem pd_1 : parseMethodDescriptor "()V" = some ⟨[], none⟩ := by decide +kernel
theorem pd_2 : parseMethodDescriptor "([B[II)V" = some ⟨[(.array .byte), (.array .int), .int], none⟩ := by decide +kernel
theorem pd_3 : parseMethodDescriptor "(I)I" = some ⟨[.int], some .int⟩ := by decide +kernel
theorem ef_0 (p0 : Int32) (p1 : Int32) (p2 : Int32) (m : MethodId) : entryFrame m #[(.int p0), (.int p1), (.int p2)] maxLocals = mkF m 0 #[.val (.int p0), .val (.int p1), .val (.int p2), .unset, .unset, .unset, .unset, .unset, .unset, .unset, .unset, .unset, .unset, .unset] [] := by first | (simp [entryFrame, mkF, argsToLocals, Value.category, maxLocals]; done) | rfl
theorem pn_0 : plainFor x = true := by first | exact plainFor_of_name (by first | (simp [plainName, overriddenIn]; done) | decide +kernel) | decide +kernel
set_option maxRecDepth 65536 in
set_option maxHeartbeats 40000000 in
theorem rm_0 (l : Launch) (Z : State) (a0 : Array Value) (hw : ∀ d ∈ tables_1, d.before a0 Z = true) (wds : List Jvm.Cond) (p0 : Int32) (p1 : Int32) (p2 : Int32) (h0 : Heap)  :
    Met l Z x code maxLocals ret wds room_1 #[(.int p0), (.int p1), (.int p2)] [] h0 (fun v h => v = some (.int 1)) := by
  refine Met.mk pn_0 (ef_0 p0 p1 p2) ?_
  intro C T hs0 O
  show Go C [] (fun v h => v = some (.int 1)) 24 128 (T.setTop (mkF C.m 0 #[.val (.int p0), .val (.int p1), .val (.int p2), .unset, .unset, .unset, .unset, .unset, .unset, .unset, .unset, .unset, .unset, .unset] []))
  refine Jvm.OwnW.iloadN O at_0 rfl (q := 1) rfl ?_
  refine Jvm.OwnW.iconst O at_1 (r := (3 : Int32)) rfl (q := 2) rfl ?_
  obtain ⟨n, hn⟩ : ∃ zz_, (p2 &&& (3 : Int32)) = zz_ := ⟨_, rfl⟩
  refine Jvm.OwnW.iand O at_2 hn (q := 3) rfl ?_
  refine Jvm.OwnW.istoreN O at_3 (L' := #[.val (.int p0), .val (.int p1), .val (.int p2), .val (.int n), .unset, .unset, .unset, .unset, .unset, .unset, .unset, .unset, .unset, .unset]) rfl (q := 4) rfl ?_
  refine Jvm.OwnW.iloadN O at_4 rfl (q := 5) rfl ?_
  refine Jvm.OwnW.iconst O at_5 (r := (2 : Int32)) rfl (q := 6) rfl ?_
  refine Jvm.OwnW.iushr O at_6 rfl (q := 7) rfl ?_
  refine Jvm.OwnW.iconst O at_7 (r := (1 : Int32)) rfl (q := 8) rfl ?_
  obtain ⟨pp, hpp⟩ : ∃ zz_, (((p2.toUInt32 >>> ((2 : Int32) &&& 31).toUInt32).toInt32) &&& (1 : Int32)) = zz_ := ⟨_, rfl⟩
  refine Jvm.OwnW.iand O at_8 hpp (q := 9) rfl ?_
  refine Jvm.OwnW.istore O at_9 (L' := #[.val (.int p0), .val (.int p1), .val (.int p2), .val (.int n), .val (.int pp), .unset, .unset, .unset, .unset, .unset, .unset, .unset, .unset, .unset]) rfl (q := 11) rfl ?_
  refine Jvm.OwnW.iloadN O at_11 rfl (q := 12) rfl ?_
  obtain ⟨a0b, ha0b⟩ : ∃ zz_, p0.toInt8.toInt32 = zz_ := ⟨_, rfl⟩
  refine Jvm.OwnW.i2b O at_12 ha0b (q := 13) rfl ?_
  refine Jvm.OwnW.istore O at_13 (L' := #[.val (.int p0), .val (.int p1), .val (.int p2), .val (.int n), .val (.int pp), .val (.int a0b), .unset, .unset, .unset, .unset, .unset, .unset, .unset, .unset]) rfl (q := 15) rfl ?_
  refine Jvm.OwnW.iloadN O at_15 rfl (q := 16) rfl ?_
  refine Jvm.OwnW.bipush O at_16 (r := (8 : Int32)) rfl (q := 18) rfl ?_
  refine Jvm.OwnW.ishr O at_18 rfl (q := 19) rfl ?_
  obtain ⟨a1b, ha1b⟩ : ∃ zz_, (p0 >>> ((8 : Int32) &&& 31)).toInt8.toInt32 = zz_ := ⟨_, rfl⟩
  refine Jvm.OwnW.i2b O at_19 ha1b (q := 20) rfl ?_
  refine Jvm.OwnW.istore O at_20 (L' := #[.val (.int p0), .val (.int p1), .val (.int p2), .val (.int n), .val (.int pp), .val (.int a0b), .val (.int a1b), .unset, .unset, .unset, .unset, .unset, .unset, .unset]) rfl (q := 22) rfl ?_
  refine Jvm.OwnW.iloadN O at_22 rfl (q := 23) rfl ?_
  refine Jvm.OwnW.bipush O at_23 (r := (16 : Int32)) rfl (q := 25) rfl ?_
  refine Jvm.OwnW.ishr O at_25 rfl (q := 26) rfl ?_
  obtain ⟨a2b, ha2b⟩ : ∃ zz_, (p0 >>> ((16 : Int32) &&& 31)).toInt8.toInt32 = zz_ := ⟨_, rfl⟩
  refine Jvm.OwnW.i2b O at_26 ha2b (q := 27) rfl ?_
  refine Jvm.OwnW.istore O at_27 (L' := #[.val (.int p0), .val (.int p1), .val (.int p2), .val (.int n), .val (.int pp), .val (.int a0b), .val (.int a1b), .val (.int a2b), .unset, .unset, .unset, .unset, .unset, .unset]) rfl (q := 29) rfl ?_
  refine Jvm.OwnW.iloadN O at_29 rfl (q := 30) rfl ?_
  obtain ⟨xb, hxb⟩ : ∃ zz_, p1.toInt8.toInt32 = zz_ := ⟨_, rfl⟩
  refine Jvm.OwnW.i2b O at_30 hxb (q := 31) rfl ?_
  refine Jvm.OwnW.istore O at_31 (L' := #[.val (.int p0), .val (.int p1), .val (.int p2), .val (.int n), .val (.int pp), .val (.int a0b), .val (.int a1b), .val (.int a2b), .val (.int xb), .unset, .unset, .unset, .unset, .unset]) rfl (q := 33) rfl ?_
  refine Jvm.OwnW.iloadN O at_33 rfl (q := 34) rfl ?_
  refine Jvm.OwnW.bipush O at_34 (r := (8 : Int32)) rfl (q := 36) rfl ?_
  refine Jvm.OwnW.ishr O at_36 rfl (q := 37) rfl ?_
  obtain ⟨yb, hyb⟩ : ∃ zz_, (p1 >>> ((8 : Int32) &&& 31)).toInt8.toInt32 = zz_ := ⟨_, rfl⟩
  refine Jvm.OwnW.i2b O at_37 hyb (q := 38) rfl ?_
  refine Jvm.OwnW.istore O at_38 (L' := #[.val (.int p0), .val (.int p1), .val (.int p2), .val (.int n), .val (.int pp), .val (.int a0b), .val (.int a1b), .val (.int a2b), .val (.int xb), .val (.int yb), .unset, .unset, .unset, .unset]) rfl (q := 40) rfl ?_
  refine Jvm.OwnW.iloadN O at_40 rfl (q := 41) rfl ?_
  refine Jvm.OwnW.bipush O at_41 (r := (16 : Int32)) rfl (q := 43) rfl ?_
  refine Jvm.OwnW.ishr O at_43 rfl (q := 44) rfl ?_
  obtain ⟨zb, hzb⟩ : ∃ zz_, (p1 >>> ((16 : Int32) &&& 31)).toInt8.toInt32 = zz_ := ⟨_, rfl⟩
  refine Jvm.OwnW.i2b O at_44 hzb (q := 45) rfl ?_
  refine Jvm.OwnW.istore O at_45 (L' := #[.val (.int p0), .val (.int p1), .val (.int p2), .val (.int n), .val (.int pp), .val (.int a0b), .val (.int a1b), .val (.int a2b), .val (.int xb), .val (.int yb), .val (.int zb), .unset, .unset, .unset]) rfl (q := 47) rfl ?_
  have ba0b : a0b.toInt8.toInt32 = a0b := by rw [← ha0b]; exact b8 _
  have ba1b : a1b.toInt8.toInt32 = a1b := by rw [← ha1b]; exact b8 _
  have ba2b : a2b.toInt8.toInt32 = a2b := by rw [← ha2b]; exact b8 _
  have bxb : xb.toInt8.toInt32 = xb := by rw [← hxb]; exact b8 _
  have byb : yb.toInt8.toInt32 = yb := by rw [← hyb]; exact b8 _
  have bzb : zb.toInt8.toInt32 = zb := by rw [← hzb]; exact b8 _
  have hn4 := own_n p2
  rw [hn] at hn4
  have hp2 := and_one ((p2.toUInt32 >>> ((2 : Int32) &&& 31).toUInt32).toInt32)
  rw [hpp] at hp2
  clear hn hpp
  rcases hn4 with rfl | rfl | rfl | rfl
  · skip
    rcases hp2 with rfl | rfl
    · skip
      refine Jvm.OwnW.bipush O at_47 (r := (9 : Int32)) rfl (q := 49) rfl ?_
      refine Jvm.OwnW.newA' O at_49 (ty := .byte) rfl (hw _ (List.mem_of_getElem? (i := 0) rfl)) (N := 9) rfl (cap := 9) (by decide) (by decide) (c2 := 1) (s2 := 9) rfl rfl (by decide) (by decide) (q := 51) rfl ?_
      intro a1 T1 h1 g1 N1 O1 X1 V_a1
      have V_a1 : Ar Z h1 a1 .byte 9 (lf [(.int (0 : Int32)), (.int (0 : Int32)), (.int (0 : Int32)), (.int (0 : Int32)), (.int (0 : Int32)), (.int (0 : Int32)), (.int (0 : Int32)), (.int (0 : Int32)), (.int (0 : Int32))]) := V_a1.congr (lf_rep 9 _)
      refine Jvm.OwnW.astore O1 at_51 rfl (L' := #[.val (.int p0), .val (.int p1), .val (.int p2), .val (.int (0 : Int32)), .val (.int (0 : Int32)), .val (.int a0b), .val (.int a1b), .val (.int a2b), .val (.int xb), .val (.int yb), .val (.int zb), .val (.ref a1), .unset, .unset]) rfl (q := 53) rfl ?_
      refine Jvm.OwnW.iload O1 at_53 rfl (q := 55) rfl ?_
      refine Jvm.OwnW.iconst O1 at_55 (r := (1 : Int32)) rfl (q := 56) rfl ?_
      refine Jvm.OwnW.icmpYes O1 at_56 (feq (show ¬ ((0 : Int32) = (1 : Int32)) from (by decide))).2 (by decide) (q := 65) rfl ?_
      refine Jvm.OwnW.aload O1 at_65 rfl rfl (q := 67) rfl ?_
      refine Jvm.OwnW.iload O1 at_67 rfl (q := 69) rfl ?_
      refine Jvm.OwnW.iloadN O1 at_69 rfl (q := 70) rfl ?_
      refine Jvm.OwnW.iload O1 at_70 rfl (q := 72) rfl ?_
      refine Jvm.OwnW.iload O1 at_72 rfl (q := 74) rfl ?_
      refine Jvm.OwnW.iload O1 at_74 rfl (q := 76) rfl ?_
      refine Jvm.OwnW.callS O1 (y := (⟨"com/example/lamina/lamina/table/TextVectorHashAtPinLaw", "put", "([BIIBBB)V"⟩ : MethodName)) (argsL := [(.ref a1), (.int (0 : Int32)), (.int (0 : Int32)), (.int a0b), (.int a1b), (.int a2b)]) (rest := []) at_76 (hw _ (List.mem_of_getElem? (i := 1) rfl)) (hw _ (List.mem_of_getElem? (i := 2) rfl)) (hw _ (List.mem_of_getElem? (i := 3) rfl)) (hw _ (List.mem_of_getElem? (i := 4) rfl)) (by decide) (rm_p0 l Z a0 hw a1 (0 : Int32) a0b a1b a2b 0 _ h1 V_a1 rfl rfl (by decide) ba0b ba1b ba2b) rfl pd_0 rfl (hst := rfl) (W := 0) (Nat.le_of_eq rfl) (by decide) (by decide) (c2 := 1) (s2 := 9) rfl rfl (by decide) (by decide) (allS (Or.inr N1) all0) (q := 79) rfl ?_
      intro v2 T2 h2 O2 K2 q2
      obtain ⟨rfl, V_a1⟩ := q2
      have V_a1 : Ar Z h2 a1 .byte 9 (lf [(.int (0 : Int32)), (.int (0 : Int32)), (.int (0 : Int32)), (.int (0 : Int32)), (.int (0 : Int32)), (.int (0 : Int32)), (.int (0 : Int32)), (.int (0 : Int32)), (.int (0 : Int32))]) := V_a1
      show Go C _ _ _ _ (T2.setTop (mkF C.m 79 #[.val (.int p0), .val (.int p1), .val (.int p2), .val (.int (0 : Int32)), .val (.int (0 : Int32)), .val (.int a0b), .val (.int a1b), .val (.int a2b), .val (.int xb), .val (.int yb), .val (.int zb), .val (.ref a1), .unset, .unset] []))
      refine Jvm.OwnW.aload O2 at_79 rfl rfl (q := 81) rfl ?_
      refine Jvm.OwnW.iload O2 at_81 rfl (q := 83) rfl ?_
      refine Jvm.OwnW.iloadN O2 at_83 rfl (q := 84) rfl ?_
      refine Jvm.OwnW.iadd O2 at_84 (r := (0 : Int32)) (by decide) (q := 85) rfl ?_
      refine Jvm.OwnW.iload O2 at_85 rfl (q := 87) rfl ?_
      refine Jvm.OwnW.basA O2 at_87 V_a1 (i := 0) rfl (by decide) (Or.inr N1) (y := yb) byb (q := 88) rfl ?_
      intro T3 h3 O3 W3
      have V_a1 : Ar Z h3 a1 .byte 9 (lf [(.int yb), (.int (0 : Int32)), (.int (0 : Int32)), (.int (0 : Int32)), (.int (0 : Int32)), (.int (0 : Int32)), (.int (0 : Int32)), (.int (0 : Int32)), (.int (0 : Int32))]) := V_a1.setL W3 (by decide) (Nat.le_of_ble_eq_true rfl)
      refine Jvm.OwnW.aload O3 at_88 rfl rfl (q := 90) rfl ?_
      refine Jvm.OwnW.iload O3 at_90 rfl (q := 92) rfl ?_
      refine Jvm.OwnW.iloadN O3 at_92 rfl (q := 93) rfl ?_
      refine Jvm.OwnW.iadd O3 at_93 (r := (0 : Int32)) (by decide) (q := 94) rfl ?_
      refine Jvm.OwnW.iconst O3 at_94 (r := (1 : Int32)) rfl (q := 95) rfl ?_
      refine Jvm.OwnW.iadd O3 at_95 (r := (1 : Int32)) (by decide) (q := 96) rfl ?_
      refine Jvm.OwnW.iloadN O3 at_96 rfl (q := 97) rfl ?_
      refine Jvm.OwnW.iload O3 at_97 rfl (q := 99) rfl ?_
      refine Jvm.OwnW.iload O3 at_99 rfl (q := 101) rfl ?_
      refine Jvm.OwnW.iload O3 at_101 rfl (q := 103) rfl ?_
      refine Jvm.OwnW.callS O3 (y := (⟨"com/example/lamina/lamina/table/TextVectorHashAtPinLaw", "put", "([BIIBBB)V"⟩ : MethodName)) (argsL := [(.ref a1), (.int (1 : Int32)), (.int (0 : Int32)), (.int a0b), (.int a1b), (.int a2b)]) (rest := []) at_103 (hw _ (List.mem_of_getElem? (i := 1) rfl)) (hw _ (List.mem_of_getElem? (i := 2) rfl)) (hw _ (List.mem_of_getElem? (i := 3) rfl)) (hw _ (List.mem_of_getElem? (i := 4) rfl)) (by decide) (rm_p0 l Z a0 hw a1 (1 : Int32) a0b a1b a2b 1 _ h3 V_a1 rfl rfl (by decide) ba0b ba1b ba2b) rfl pd_0 rfl (hst := rfl) (W := 0) (Nat.le_of_eq rfl) (by decide) (by decide) (c2 := 1) (s2 := 9) rfl rfl (by decide) (by decide) (allS (Or.inr N1) all0) (q := 106) rfl ?_
      intro v4 T4 h4 O4 K4 q4
      obtain ⟨rfl, V_a1⟩ := q4
      have V_a1 : Ar Z h4 a1 .byte 9 (lf [(.int yb), (.int (0 : Int32)), (.int (0 : Int32)), (.int (0 : Int32)), (.int (0 : Int32)), (.int (0 : Int32)), (.int (0 : Int32)), (.int (0 : Int32)), (.int (0 : Int32))]) := V_a1
      show Go C _ _ _ _ (T4.setTop (mkF C.m 106 #[.val (.int p0), .val (.int p1), .val (.int p2), .val (.int (0 : Int32)), .val (.int (0 : Int32)), .val (.int a0b), .val (.int a1b), .val (.int a2b), .val (.int xb), .val (.int yb), .val (.int zb), .val (.ref a1), .unset, .unset] []))
      refine Jvm.OwnW.aload O4 at_106 rfl rfl (q := 108) rfl ?_
      refine Jvm.OwnW.iload O4 at_108 rfl (q := 110) rfl ?_
      refine Jvm.OwnW.iconst O4 at_110 (r := (2 : Int32)) rfl (q := 111) rfl ?_
      refine Jvm.OwnW.iloadN O4 at_111 rfl (q := 112) rfl ?_
      refine Jvm.OwnW.imul O4 at_112 (r := (0 : Int32)) (by decide) (q := 113) rfl ?_
      refine Jvm.OwnW.iadd O4 at_113 (r := (0 : Int32)) (by decide) (q := 114) rfl ?_
      refine Jvm.OwnW.iconst O4 at_114 (r := (1 : Int32)) rfl (q := 115) rfl ?_
      refine Jvm.OwnW.iadd O4 at_115 (r := (1 : Int32)) (by decide) (q := 116) rfl ?_
      refine Jvm.OwnW.iload O4 at_116 rfl (q := 118) rfl ?_
      refine Jvm.OwnW.basA O4 at_118 V_a1 (i := 1) rfl (by decide) (Or.inr N1) (y := zb) bzb (q := 119) rfl ?_
      intro T5 h5 O5 W5
      have V_a1 : Ar Z h5 a1 .byte 9 (lf [(.int yb), (.int zb), (.int (0 : Int32)), (.int (0 : Int32)), (.int (0 : Int32)), (.int (0 : Int32)), (.int (0 : Int32)), (.int (0 : Int32)), (.int (0 : Int32))]) := V_a1.setL W5 (by decide) (Nat.le_of_ble_eq_true rfl)
      refine Jvm.OwnW.bipush O5 at_119 (r := (6 : Int32)) rfl (q := 121) rfl ?_
      refine Jvm.OwnW.newA' O5 at_121 (ty := .int) rfl (hw _ (List.mem_of_getElem? (i := 5) rfl)) (N := 6) rfl (cap := 6) (by decide) (by decide) (c2 := 2) (s2 := 15) rfl rfl (by decide) (by decide) (q := 123) rfl ?_
      intro a6 T6 h6 g6 N6 O6 X6 V_a6
      have ne_a1_a6 : a1 ≠ a6 := Nat.ne_of_lt (Nat.lt_of_lt_of_le V_a1.lt (Nat.le_of_eq g6.symm))
      have V_a1 := V_a1.ext X6
      have V_a6 : Ar Z h6 a6 .int 6 (lf [(.int (0 : Int32)), (.int (0 : Int32)), (.int (0 : Int32)), (.int (0 : Int32)), (.int (0 : Int32)), (.int (0 : Int32))]) := V_a6.congr (lf_rep 6 _)
      refine Jvm.OwnW.astore O6 at_123 rfl (L' := #[.val (.int p0), .val (.int p1), .val (.int p2), .val (.int (0 : Int32)), .val (.int (0 : Int32)), .val (.int a0b), .val (.int a1b), .val (.int a2b), .val (.int xb), .val (.int yb), .val (.int zb), .val (.ref a1), .val (.ref a6), .unset]) rfl (q := 125) rfl ?_
      refine Jvm.OwnW.aload O6 at_125 rfl rfl (q := 127) rfl ?_
      refine Jvm.OwnW.iconst O6 at_127 (r := (0 : Int32)) rfl (q := 128) rfl ?_
      refine Jvm.OwnW.iconst O6 at_128 (r := (0 : Int32)) rfl (q := 129) rfl ?_
      refine Jvm.OwnW.iasA O6 at_129 V_a6 (i := 0) rfl (by decide) (Or.inr N6) (q := 130) rfl ?_
      intro T7 h7 O7 W7
      have V_a6 : Ar Z h7 a6 .int 6 (lf [(.int (0 : Int32)), (.int (0 : Int32)), (.int (0 : Int32)), (.int (0 : Int32)), (.int (0 : Int32)), (.int (0 : Int32))]) := V_a6.setL W7 (by decide) (Nat.le_of_ble_eq_true rfl)
      have V_a1 := V_a1.other W7 ne_a1_a6
      refine Jvm.OwnW.aload O7 at_130 rfl rfl (q := 132) rfl ?_
      refine Jvm.OwnW.iconst O7 at_132 (r := (1 : Int32)) rfl (q := 133) rfl ?_
      refine Jvm.OwnW.iload O7 at_133 rfl (q := 135) rfl ?_
      refine Jvm.OwnW.iasA O7 at_135 V_a6 (i := 1) rfl (by decide) (Or.inr N6) (q := 136) rfl ?_
      intro T8 h8 O8 W8
      have V_a6 : Ar Z h8 a6 .int 6 (lf [(.int (0 : Int32)), (.int (0 : Int32)), (.int (0 : Int32)), (.int (0 : Int32)), (.int (0 : Int32)), (.int (0 : Int32))]) := V_a6.setL W8 (by decide) (Nat.le_of_ble_eq_true rfl)
      have V_a1 := V_a1.other W8 ne_a1_a6
      refine Jvm.OwnW.aload O8 at_136 rfl rfl (q := 138) rfl ?_
      refine Jvm.OwnW.iconst O8 at_138 (r := (2 : Int32)) rfl (q := 139) rfl ?_
      refine Jvm.OwnW.iload O8 at_139 rfl (q := 141) rfl ?_
      refine Jvm.OwnW.iloadN O8 at_141 rfl (q := 142) rfl ?_
      refine Jvm.OwnW.iadd O8 at_142 (r := (0 : Int32)) (by decide) (q := 143) rfl ?_
      refine Jvm.OwnW.iasA O8 at_143 V_a6 (i := 2) rfl (by decide) (Or.inr N6) (q := 144) rfl ?_
      intro T9 h9 O9 W9
      have V_a6 : Ar Z h9 a6 .int 6 (lf [(.int (0 : Int32)), (.int (0 : Int32)), (.int (0 : Int32)), (.int (0 : Int32)), (.int (0 : Int32)), (.int (0 : Int32))]) := V_a6.setL W9 (by decide) (Nat.le_of_ble_eq_true rfl)
      have V_a1 := V_a1.other W9 ne_a1_a6
      refine Jvm.OwnW.aload O9 at_144 rfl rfl (q := 146) rfl ?_
      refine Jvm.OwnW.iconst O9 at_146 (r := (3 : Int32)) rfl (q := 147) rfl ?_
      refine Jvm.OwnW.iload O9 at_147 rfl (q := 149) rfl ?_
      refine Jvm.OwnW.iloadN O9 at_149 rfl (q := 150) rfl ?_
      refine Jvm.OwnW.iadd O9 at_150 (r := (0 : Int32)) (by decide) (q := 151) rfl ?_
      refine Jvm.OwnW.iconst O9 at_151 (r := (1 : Int32)) rfl (q := 152) rfl ?_
      refine Jvm.OwnW.iadd O9 at_152 (r := (1 : Int32)) (by decide) (q := 153) rfl ?_
      refine Jvm.OwnW.iasA O9 at_153 V_a6 (i := 3) rfl (by decide) (Or.inr N6) (q := 154) rfl ?_
      intro T10 h10 O10 W10
      have V_a6 : Ar Z h10 a6 .int 6 (lf [(.int (0 : Int32)), (.int (0 : Int32)), (.int (0 : Int32)), (.int (1 : Int32)), (.int (0 : Int32)), (.int (0 : Int32))]) := V_a6.setL W10 (by decide) (Nat.le_of_ble_eq_true rfl)
      have V_a1 := V_a1.other W10 ne_a1_a6
      refine Jvm.OwnW.aload O10 at_154 rfl rfl (q := 156) rfl ?_
      refine Jvm.OwnW.iconst O10 at_156 (r := (4 : Int32)) rfl (q := 157) rfl ?_
      refine Jvm.OwnW.iload O10 at_157 rfl (q := 159) rfl ?_
      refine Jvm.OwnW.iconst O10 at_159 (r := (2 : Int32)) rfl (q := 160) rfl ?_
      refine Jvm.OwnW.iloadN O10 at_160 rfl (q := 161) rfl ?_
      refine Jvm.OwnW.imul O10 at_161 (r := (0 : Int32)) (by decide) (q := 162) rfl ?_
      refine Jvm.OwnW.iadd O10 at_162 (r := (0 : Int32)) (by decide) (q := 163) rfl ?_
      refine Jvm.OwnW.iconst O10 at_163 (r := (1 : Int32)) rfl (q := 164) rfl ?_
      refine Jvm.OwnW.iadd O10 at_164 (r := (1 : Int32)) (by decide) (q := 165) rfl ?_
      refine Jvm.OwnW.iasA O10 at_165 V_a6 (i := 4) rfl (by decide) (Or.inr N6) (q := 166) rfl ?_
      intro T11 h11 O11 W11
      have V_a6 : Ar Z h11 a6 .int 6 (lf [(.int (0 : Int32)), (.int (0 : Int32)), (.int (0 : Int32)), (.int (1 : Int32)), (.int (1 : Int32)), (.int (0 : Int32))]) := V_a6.setL W11 (by decide) (Nat.le_of_ble_eq_true rfl)
      have V_a1 := V_a1.other W11 ne_a1_a6
      refine Jvm.OwnW.aload O11 at_166 rfl rfl (q := 168) rfl ?_
      refine Jvm.OwnW.iconst O11 at_168 (r := (5 : Int32)) rfl (q := 169) rfl ?_
      refine Jvm.OwnW.iload O11 at_169 rfl (q := 171) rfl ?_
      refine Jvm.OwnW.iconst O11 at_171 (r := (2 : Int32)) rfl (q := 172) rfl ?_
      refine Jvm.OwnW.iloadN O11 at_172 rfl (q := 173) rfl ?_
      refine Jvm.OwnW.imul O11 at_173 (r := (0 : Int32)) (by decide) (q := 174) rfl ?_
      refine Jvm.OwnW.iadd O11 at_174 (r := (0 : Int32)) (by decide) (q := 175) rfl ?_
      refine Jvm.OwnW.iconst O11 at_175 (r := (2 : Int32)) rfl (q := 176) rfl ?_
      refine Jvm.OwnW.iadd O11 at_176 (r := (2 : Int32)) (by decide) (q := 177) rfl ?_
      refine Jvm.OwnW.iasA O11 at_177 V_a6 (i := 5) rfl (by decide) (Or.inr N6) (q := 178) rfl ?_
      intro T12 h12 O12 W12
      have V_a6 : Ar Z h12 a6 .int 6 (lf [(.int (0 : Int32)), (.int (0 : Int32)), (.int (0 : Int32)), (.int (1 : Int32)), (.int (1 : Int32)), (.int (2 : Int32))]) := V_a6.setL W12 (by decide) (Nat.le_of_ble_eq_true rfl)
      have V_a1 := V_a1.other W12 ne_a1_a6
      refine Jvm.OwnW.newO O12 at_178 (hw _ (List.mem_of_getElem? (i := 6) rfl)) (hw _ (List.mem_of_getElem? (i := 7) rfl)) (hw _ (List.mem_of_getElem? (i := 8) rfl)) (c2 := 3) (s2 := 18) rfl rfl (by decide) (by decide) (q := 181) rfl ?_
      intro a13 T13 h13 g13 N13 O13 X13 E_a13 D13
      have ne_a1_a13 : a1 ≠ a13 := Nat.ne_of_lt (Nat.lt_of_lt_of_le V_a1.lt (Nat.le_of_eq g13.symm))
      have ne_a6_a13 : a6 ≠ a13 := Nat.ne_of_lt (Nat.lt_of_lt_of_le V_a6.lt (Nat.le_of_eq g13.symm))
      have V_a1 := V_a1.ext X13
      have V_a6 := V_a6.ext X13
      have F_data_a13 : Fld Z h13 a13 "com/example/lamina/lamina/table/TextVector" "data" "[B" .null := D13 (Or.inl (hw _ (List.mem_of_getElem? (i := 16) rfl))) (ty := (.array .byte)) (by decide)
      have F_offsets_a13 : Fld Z h13 a13 "com/example/lamina/lamina/table/TextVector" "offsets" "[I" .null := D13 (Or.inl (hw _ (List.mem_of_getElem? (i := 18) rfl))) (ty := (.array .int)) (by decide)
      have F_size_a13 : Fld Z h13 a13 "com/example/lamina/lamina/table/TextVector" "size" "I" (.int (0 : Int32)) := D13 (Or.inl (hw _ (List.mem_of_getElem? (i := 25) rfl))) (ty := .int) (by decide)
      refine Jvm.OwnW.dup O13 at_181 rfl (q := 182) rfl ?_
      refine Jvm.OwnW.callI O13 (y := (⟨"com/example/lamina/lamina/table/TextVector", "<init>", "()V"⟩ : MethodName)) (a := a13) (argsL := []) (rest := [(.ref a13)]) at_182 rfl (hw _ (List.mem_of_getElem? (i := 9) rfl)) (hw _ (List.mem_of_getElem? (i := 10) rfl)) (hw _ (List.mem_of_getElem? (i := 8) rfl)) (hw _ (List.mem_of_getElem? (i := 11) rfl)) (by decide) (rm_i l Z a0 hw a13 h13 E_a13 F_data_a13 F_offsets_a13 F_size_a13) rfl pd_1 rfl (hst := rfl) (W := 1) (Nat.le_of_eq rfl) (by decide) (by decide) (c2 := 5) (s2 := 19) rfl rfl (by decide) (by decide) (allS (Or.inr N13) all0) (q := 185) rfl ?_
      intro v14 T14 h14 O14 K14 q14
      obtain ⟨rfl, b_a13, c_a13, F_data_a13, F_offsets_a13, F_size_a13⟩ := q14
      have V_a1 := V_a1.keep K14 (ninS ne_a1_a13 nin0)
      have V_a6 := V_a6.keep K14 (ninS ne_a6_a13 nin0)
      have E_a13 := E_a13.keep K14
      show Go C _ _ _ _ (T14.setTop (mkF C.m 185 #[.val (.int p0), .val (.int p1), .val (.int p2), .val (.int (0 : Int32)), .val (.int (0 : Int32)), .val (.int a0b), .val (.int a1b), .val (.int a2b), .val (.int xb), .val (.int yb), .val (.int zb), .val (.ref a1), .val (.ref a6), .unset] [(.ref a13)]))
      refine Jvm.OwnW.astore O14 at_185 rfl (L' := #[.val (.int p0), .val (.int p1), .val (.int p2), .val (.int (0 : Int32)), .val (.int (0 : Int32)), .val (.int a0b), .val (.int a1b), .val (.int a2b), .val (.int xb), .val (.int yb), .val (.int zb), .val (.ref a1), .val (.ref a6), .val (.ref a13)]) rfl (q := 187) rfl ?_
      refine Jvm.OwnW.aload O14 at_187 rfl rfl (q := 189) rfl ?_
      refine Jvm.OwnW.aload O14 at_189 rfl rfl (q := 191) rfl ?_
      refine Jvm.OwnW.aload O14 at_191 rfl rfl (q := 193) rfl ?_
      refine Jvm.OwnW.iconst O14 at_193 (r := (5 : Int32)) rfl (q := 194) rfl ?_
      refine Jvm.OwnW.callV O14 (y := (⟨"com/example/lamina/lamina/table/TextVector", "reset", "([B[II)V"⟩ : MethodName)) (z := (⟨"com/example/lamina/lamina/table/TextVector", "reset", "([B[II)V"⟩ : MethodName)) (a := a13) (argsL := [(.ref a1), (.ref a6), (.int (5 : Int32))]) (rest := []) at_194 (hw _ (List.mem_of_getElem? (i := 19) rfl)) (hw _ (List.mem_of_getElem? (i := 20) rfl)) (hw _ (List.mem_of_getElem? (i := 22) rfl)) rfl (hw _ (List.mem_of_getElem? (i := 21) rfl)) (hw _ (List.mem_of_getElem? (i := 8) rfl)) (hw _ (List.mem_of_getElem? (i := 23) rfl)) (by decide) (rm_r l Z a0 hw a13 a1 a6 (5 : Int32) _ _ _ h14 E_a13 F_data_a13 F_offsets_a13 F_size_a13) E_a13 rfl pd_2 rfl (hst := rfl) (W := 0) (Nat.le_of_eq rfl) (by decide) (by decide) (c2 := 5) (s2 := 19) rfl rfl (by decide) (by decide) (allS (Or.inr N13) all0) (q := 197) rfl ?_
      intro v15 T15 h15 O15 K15 q15
      obtain ⟨rfl, F_data_a13, F_offsets_a13, F_size_a13⟩ := q15
      have V_a1 := V_a1.keep K15 (ninS ne_a1_a13 nin0)
      have V_a6 := V_a6.keep K15 (ninS ne_a6_a13 nin0)
      have E_a13 := E_a13.keep K15
      show Go C _ _ _ _ (T15.setTop (mkF C.m 197 #[.val (.int p0), .val (.int p1), .val (.int p2), .val (.int (0 : Int32)), .val (.int (0 : Int32)), .val (.int a0b), .val (.int a1b), .val (.int a2b), .val (.int xb), .val (.int yb), .val (.int zb), .val (.ref a1), .val (.ref a6), .val (.ref a13)] []))
      refine Jvm.OwnW.aload O15 at_197 rfl rfl (q := 199) rfl ?_
      refine Jvm.OwnW.iconst O15 at_199 (r := (1 : Int32)) rfl (q := 200) rfl ?_
      refine Jvm.OwnW.callV0 O15 (y := (⟨"com/example/lamina/lamina/table/TextVector", "hashAt", "(I)I"⟩ : MethodName)) (z := (⟨"com/example/lamina/lamina/table/TextVector", "hashAt", "(I)I"⟩ : MethodName)) (a := a13) (argsL := [(.int (1 : Int32))]) (rest := []) at_200 (hw _ (List.mem_of_getElem? (i := 26) rfl)) (hw _ (List.mem_of_getElem? (i := 27) rfl)) (hw _ (List.mem_of_getElem? (i := 29) rfl)) rfl (hw _ (List.mem_of_getElem? (i := 28) rfl)) (hw _ (List.mem_of_getElem? (i := 8) rfl)) (hw _ (List.mem_of_getElem? (i := 30) rfl)) (by decide) (rm_h l Z a0 hw a13 (1 : Int32) a1 a6 9 6 1 0 0 (fun j => ([yb, zb, (0 : Int32), (0 : Int32), (0 : Int32), (0 : Int32), (0 : Int32), (0 : Int32), (0 : Int32)] : List Int32).getD j 0) (fun j => ([(0 : Int32), (0 : Int32), (0 : Int32), (1 : Int32), (1 : Int32), (2 : Int32)] : List Int32).getD j 0) h15 E_a13 F_data_a13 F_offsets_a13 (V_a1.congr (lf_int [yb, zb, (0 : Int32), (0 : Int32), (0 : Int32), (0 : Int32), (0 : Int32), (0 : Int32), (0 : Int32)])) (V_a6.congr (lf_int [(0 : Int32), (0 : Int32), (0 : Int32), (1 : Int32), (1 : Int32), (2 : Int32)])) rfl (by decide) rfl rfl (by decide) (by decide)) E_a13 rfl pd_3 rfl (hst := rfl) (W := 0) (Nat.le_of_eq rfl) (by decide) (by decide) (c2 := 5) (s2 := 19) rfl rfl (by decide) (by decide) rfl rfl (q := 203) rfl ?_
      intro v16 T16 O16 q16
      obtain rfl := q16
      show Go C _ _ _ _ (T16.setTop (mkF C.m 203 #[.val (.int p0), .val (.int p1), .val (.int p2), .val (.int (0 : Int32)), .val (.int (0 : Int32)), .val (.int a0b), .val (.int a1b), .val (.int a2b), .val (.int xb), .val (.int yb), .val (.int zb), .val (.ref a1), .val (.ref a6), .val (.ref a13)] [(.int (own_hash (fun j => ([yb, zb, (0 : Int32), (0 : Int32), (0 : Int32), (0 : Int32), (0 : Int32), (0 : Int32), (0 : Int32)] : List Int32).getD j 0) 0 (0 - 0) 1))]))
      refine Jvm.OwnW.aload O16 at_203 rfl rfl (q := 205) rfl ?_
      refine Jvm.OwnW.iconst O16 at_205 (r := (3 : Int32)) rfl (q := 206) rfl ?_
      refine Jvm.OwnW.callV0 O16 (y := (⟨"com/example/lamina/lamina/table/TextVector", "hashAt", "(I)I"⟩ : MethodName)) (z := (⟨"com/example/lamina/lamina/table/TextVector", "hashAt", "(I)I"⟩ : MethodName)) (a := a13) (argsL := [(.int (3 : Int32))]) (rest := [(.int (own_hash (fun j => ([yb, zb, (0 : Int32), (0 : Int32), (0 : Int32), (0 : Int32), (0 : Int32), (0 : Int32), (0 : Int32)] : List Int32).getD j 0) 0 (0 - 0) 1))]) at_206 (hw _ (List.mem_of_getElem? (i := 26) rfl)) (hw _ (List.mem_of_getElem? (i := 27) rfl)) (hw _ (List.mem_of_getElem? (i := 29) rfl)) rfl (hw _ (List.mem_of_getElem? (i := 28) rfl)) (hw _ (List.mem_of_getElem? (i := 8) rfl)) (hw _ (List.mem_of_getElem? (i := 30) rfl)) (by decide) (rm_h l Z a0 hw a13 (3 : Int32) a1 a6 9 6 3 1 1 (fun j => ([yb, zb, (0 : Int32), (0 : Int32), (0 : Int32), (0 : Int32), (0 : Int32), (0 : Int32), (0 : Int32)] : List Int32).getD j 0) (fun j => ([(0 : Int32), (0 : Int32), (0 : Int32), (1 : Int32), (1 : Int32), (2 : Int32)] : List Int32).getD j 0) h15 E_a13 F_data_a13 F_offsets_a13 (V_a1.congr (lf_int [yb, zb, (0 : Int32), (0 : Int32), (0 : Int32), (0 : Int32), (0 : Int32), (0 : Int32), (0 : Int32)])) (V_a6.congr (lf_int [(0 : Int32), (0 : Int32), (0 : Int32), (1 : Int32), (1 : Int32), (2 : Int32)])) rfl (by decide) rfl rfl (by decide) (by decide)) E_a13 rfl pd_3 rfl (hst := rfl) (W := 1) (Nat.le_of_eq rfl) (by decide) (by decide) (c2 := 5) (s2 := 19) rfl rfl (by decide) (by decide) rfl rfl (q := 209) rfl ?_
      intro v17 T17 O17 q17
      obtain rfl := q17
      show Go C _ _ _ _ (T17.setTop (mkF C.m 209 #[.val (.int p0), .val (.int p1), .val (.int p2), .val (.int (0 : Int32)), .val (.int (0 : Int32)), .val (.int a0b), .val (.int a1b), .val (.int a2b), .val (.int xb), .val (.int yb), .val (.int zb), .val (.ref a1), .val (.ref a6), .val (.ref a13)] [(.int (own_hash (fun j => ([yb, zb, (0 : Int32), (0 : Int32), (0 : Int32), (0 : Int32), (0 : Int32), (0 : Int32), (0 : Int32)] : List Int32).getD j 0) 1 (1 - 1) 1)), (.int (own_hash (fun j => ([yb, zb, (0 : Int32), (0 : Int32), (0 : Int32), (0 : Int32), (0 : Int32), (0 : Int32), (0 : Int32)] : List Int32).getD j 0) 0 (0 - 0) 1))]))
      refine Jvm.OwnW.icmpNo O17 at_209 (teq (show (own_hash (fun j => ([yb, zb, (0 : Int32), (0 : Int32), (0 : Int32), (0 : Int32), (0 : Int32), (0 : Int32), (0 : Int32)] : List Int32).getD j 0) 0 (0 - 0) 1) = (own_hash (fun j => ([yb, zb, (0 : Int32), (0 : Int32), (0 : Int32), (0 : Int32), (0 : Int32), (0 : Int32), (0 : Int32)] : List Int32).getD j 0) 1 (1 - 1) 1) from rfl)).2 (q := 212) rfl ?_
      refine Jvm.OwnW.iconst O17 at_212 (r := (1 : Int32)) rfl (q := 213) rfl ?_
      refine Jvm.OwnW.goto O17 at_213 (by decide) (q := 217) rfl ?_
      exact Jvm.OwnW.retB O17 at_217 rfl (Or.inr rfl) (by decide) (by decide) rfl
    · skip
      refine Jvm.OwnW.bipush O at_47 (r := (9 : Int32)) rfl (q := 49) rfl ?_
      refine Jvm.OwnW.newA' O at_49 (ty := .byte) rfl (hw _ (List.mem_of_getElem? (i := 0) rfl)) (N := 9) rfl (cap := 9) (by decide) (by decide) (c2 := 1) (s2 := 9) rfl rfl (by decide) (by decide) (q := 51) rfl ?_
      intro a18 T18 h18 g18 N18 O18 X18 V_a18
      have V_a18 : Ar Z h18 a18 .byte 9 (lf [(.int (0 : Int32)), (.int (0 : Int32)), (.int (0 : Int32)), (.int (0 : Int32)), (.int (0 : Int32)), (.int (0 : Int32)), (.int (0 : Int32)), (.int (0 : Int32)), (.int (0 : Int32))]) := V_a18.congr (lf_rep 9 _)
      refine Jvm.OwnW.astore O18 at_51 rfl (L' := #[.val (.int p0), .val (.int p1), .val (.int p2), .val (.int (0 : Int32)), .val (.int (1 : Int32)), .val (.int a0b), .val (.int a1b), .val (.int a2b), .val (.int xb), .val (.int yb), .val (.int zb), .val (.ref a18), .unset, .unset]) rfl (q := 53) rfl ?_
      refine Jvm.OwnW.iload O18 at_53 rfl (q := 55) rfl ?_
      refine Jvm.OwnW.iconst O18 at_55 (r := (1 : Int32)) rfl (q := 56) rfl ?_
      refine Jvm.OwnW.icmpNo O18 at_56 (teq (show (1 : Int32) = (1 : Int32) from (by decide))).2 (q := 59) rfl ?_
      refine Jvm.OwnW.aload O18 at_59 rfl rfl (q := 61) rfl ?_
      refine Jvm.OwnW.iconst O18 at_61 (r := (0 : Int32)) rfl (q := 62) rfl ?_
      refine Jvm.OwnW.iload O18 at_62 rfl (q := 64) rfl ?_
      refine Jvm.OwnW.basA O18 at_64 V_a18 (i := 0) rfl (by decide) (Or.inr N18) (y := xb) bxb (q := 65) rfl ?_
      intro T19 h19 O19 W19
      have V_a18 : Ar Z h19 a18 .byte 9 (lf [(.int xb), (.int (0 : Int32)), (.int (0 : Int32)), (.int (0 : Int32)), (.int (0 : Int32)), (.int (0 : Int32)), (.int (0 : Int32)), (.int (0 : Int32)), (.int (0 : Int32))]) := V_a18.setL W19 (by decide) (Nat.le_of_ble_eq_true rfl)
      refine Jvm.OwnW.aload O19 at_65 rfl rfl (q := 67) rfl ?_
      refine Jvm.OwnW.iload O19 at_67 rfl (q := 69) rfl ?_
      refine Jvm.OwnW.iloadN O19 at_69 rfl (q := 70) rfl ?_
      refine Jvm.OwnW.iload O19 at_70 rfl (q := 72) rfl ?_
      refine Jvm.OwnW.iload O19 at_72 rfl (q := 74) rfl ?_
      refine Jvm.OwnW.iload O19 at_74 rfl (q := 76) rfl ?_
      refine Jvm.OwnW.callS O19 (y := (⟨"com/example/lamina/lamina/table/TextVectorHashAtPinLaw", "put", "([BIIBBB)V"⟩ : MethodName)) (argsL := [(.ref a18), (.int (1 : Int32)), (.int (0 : Int32)), (.int a0b), (.int a1b), (.int a2b)]) (rest := []) at_76 (hw _ (List.mem_of_getElem? (i := 1) rfl)) (hw _ (List.mem_of_getElem? (i := 2) rfl)) (hw _ (List.mem_of_getElem? (i := 3) rfl)) (hw _ (List.mem_of_getElem? (i := 4) rfl)) (by decide) (rm_p0 l Z a0 hw a18 (1 : Int32) a0b a1b a2b 1 _ h19 V_a18 rfl rfl (by decide) ba0b ba1b ba2b) rfl pd_0 rfl (hst := rfl) (W := 0) (Nat.le_of_eq rfl) (by decide) (by decide) (c2 := 1) (s2 := 9) rfl rfl (by decide) (by decide) (allS (Or.inr N18) all0) (q := 79) rfl ?_
      intro v20 T20 h20 O20 K20 q20
      obtain ⟨rfl, V_a18⟩ := q20
      have V_a18 : Ar Z h20 a18 .byte 9 (lf [(.int xb), (.int (0 : Int32)), (.int (0 : Int32)), (.int (0 : Int32)), (.int (0 : Int32)), (.int (0 : Int32)), (.int (0 : Int32)), (.int (0 : Int32)), (.int (0 : Int32))]) := V_a18
      show Go C _ _ _ _ (T20.setTop (mkF C.m 79 #[.val (.int p0), .val (.int p1), .val (.int p2), .val (.int (0 : Int32)), .val (.int (1 : Int32)), .val (.int a0b), .val (.int a1b), .val (.int a2b), .val (.int xb), .val (.int yb), .val (.int zb), .val (.ref a18), .unset, .unset] []))
      refine Jvm.OwnW.aload O20 at_79 rfl rfl (q := 81) rfl ?_
      refine Jvm.OwnW.iload O20 at_81 rfl (q := 83) rfl ?_
      refine Jvm.OwnW.iloadN O20 at_83 rfl (q := 84) rfl ?_
      refine Jvm.OwnW.iadd O20 at_84 (r := (1 : Int32)) (by decide) (q := 85) rfl ?_
      refine Jvm.OwnW.iload O20 at_85 rfl (q := 87) rfl ?_
      refine Jvm.OwnW.basA O20 at_87 V_a18 (i := 1) rfl (by decide) (Or.inr N18) (y := yb) byb (q := 88) rfl ?_
      intro T21 h21 O21 W21
      have V_a18 : Ar Z h21 a18 .byte 9 (lf [(.int xb), (.int yb), (.int (0 : Int32)), (.int (0 : Int32)), (.int (0 : Int32)), (.int (0 : Int32)), (.int (0 : Int32)), (.int (0 : Int32)), (.int (0 : Int32))]) := V_a18.setL W21 (by decide) (Nat.le_of_ble_eq_true rfl)
      refine Jvm.OwnW.aload O21 at_88 rfl rfl (q := 90) rfl ?_
      refine Jvm.OwnW.iload O21 at_90 rfl (q := 92) rfl ?_
      refine Jvm.OwnW.iloadN O21 at_92 rfl (q := 93) rfl ?_
      refine Jvm.OwnW.iadd O21 at_93 (r := (1 : Int32)) (by decide) (q := 94) rfl ?_
      refine Jvm.OwnW.iconst O21 at_94 (r := (1 : Int32)) rfl (q := 95) rfl ?_
      refine Jvm.OwnW.iadd O21 at_95 (r := (2 : Int32)) (by decide) (q := 96) rfl ?_
      refine Jvm.OwnW.iloadN O21 at_96 rfl (q := 97) rfl ?_
      refine Jvm.OwnW.iload O21 at_97 rfl (q := 99) rfl ?_
      refine Jvm.OwnW.iload O21 at_99 rfl (q := 101) rfl ?_
      refine Jvm.OwnW.iload O21 at_101 rfl (q := 103) rfl ?_
      refine Jvm.OwnW.callS O21 (y := (⟨"com/example/lamina/lamina/table/TextVectorHashAtPinLaw", "put", "([BIIBBB)V"⟩ : MethodName)) (argsL := [(.ref a18), (.int (2 : Int32)), (.int (0 : Int32)), (.int a0b), (.int a1b), (.int a2b)]) (rest := []) at_103 (hw _ (List.mem_of_getElem? (i := 1) rfl)) (hw _ (List.mem_of_getElem? (i := 2) rfl)) (hw _ (List.mem_of_getElem? (i := 3) rfl)) (hw _ (List.mem_of_getElem? (i := 4) rfl)) (by decide) (rm_p0 l Z a0 hw a18 (2 : Int32) a0b a1b a2b 2 _ h21 V_a18 rfl rfl (by decide) ba0b ba1b ba2b) rfl pd_0 rfl (hst := rfl) (W := 0) (Nat.le_of_eq rfl) (by decide) (by decide) (c2 := 1) (s2 := 9) rfl rfl (by decide) (by decide) (allS (Or.inr N18) all0) (q := 106) rfl ?_
      intro v22 T22 h22 O22 K22 q22
      obtain ⟨rfl, V_a18⟩ := q22
      have V_a18 : Ar Z h22 a18 .byte 9 (lf [(.int xb), (.int yb), (.int (0 : Int32)), (.int (0 : Int32)), (.int (0 : Int32)), (.int (0 : Int32)), (.int (0 : Int32)), (.int (0 : Int32)), (.int (0 : Int32))]) := V_a18
      show Go C _ _ _ _ (T22.setTop (mkF C.m 106 #[.val (.int p0), .val (.int p1), .val (.int p2), .val (.int (0 : Int32)), .val (.int (1 : Int32)), .val (.int a0b), .val (.int a1b), .val (.int a2b), .val (.int xb), .val (.int yb), .val (.int zb), .val (.ref a18), .unset, .unset] []))
      refine Jvm.OwnW.aload O22 at_106 rfl rfl (q := 108) rfl ?_
      refine Jvm.OwnW.iload O22 at_108 rfl (q := 110) rfl ?_
      refine Jvm.OwnW.iconst O22 at_110 (r := (2 : Int32)) rfl (q := 111) rfl ?_
      refine Jvm.OwnW.iloadN O22 at_111 rfl (q := 112) rfl ?_
      refine Jvm.OwnW.imul O22 at_112 (r := (0 : Int32)) (by decide) (q := 113) rfl ?_
      refine Jvm.OwnW.iadd O22 at_113 (r := (1 : Int32)) (by decide) (q := 114) rfl ?_
      refine Jvm.OwnW.iconst O22 at_114 (r := (1 : Int32)) rfl (q := 115) rfl ?_
      refine Jvm.OwnW.iadd O22 at_115 (r := (2 : Int32)) (by decide) (q := 116) rfl ?_
      refine Jvm.OwnW.iload O22 at_116 rfl (q := 118) rfl ?_
      refine Jvm.OwnW.basA O22 at_118 V_a18 (i := 2) rfl (by decide) (Or.inr N18) (y := zb) bzb (q := 119) rfl ?_
      intro T23 h23 O23 W23
      have V_a18 : Ar Z h23 a18 .byte 9 (lf [(.int xb), (.int yb), (.int zb), (.int (0 : Int32)), (.int (0 : Int32)), (.int (0 : Int32)), (.int (0 : Int32)), (.int (0 : Int32)), (.int (0 : Int32))]) := V_a18.setL W23 (by decide) (Nat.le_of_ble_eq_true rfl)
      refine Jvm.OwnW.bipush O23 at_119 (r := (6 : Int32)) rfl (q := 121) rfl ?_
      refine Jvm.OwnW.newA' O23 at_121 (ty := .int) rfl (hw _ (List.mem_of_getElem? (i := 5) rfl)) (N := 6) rfl (cap := 6) (by decide) (by decide) (c2 := 2) (s2 := 15) rfl rfl (by decide) (by decide) (q := 123) rfl ?_
      intro a24 T24 h24 g24 N24 O24 X24 V_a24
      have ne_a18_a24 : a18 ≠ a24 := Nat.ne_of_lt (Nat.lt_of_lt_of_le V_a18.lt (Nat.le_of_eq g24.symm))
      have V_a18 := V_a18.ext X24
      have V_a24 : Ar Z h24 a24 .int 6 (lf [(.int (0 : Int32)), (.int (0 : Int32)), (.int (0 : Int32)), (.int (0 : Int32)), (.int (0 : Int32)), (.int (0 : Int32))]) := V_a24.congr (lf_rep 6 _)
      refine Jvm.OwnW.astore O24 at_123 rfl (L' := #[.val (.int p0), .val (.int p1), .val (.int p2), .val (.int (0 : Int32)), .val (.int (1 : Int32)), .val (.int a0b), .val (.int a1b), .val (.int a2b), .val (.int xb), .val (.int yb), .val (.int zb), .val (.ref a18), .val (.ref a24), .unset]) rfl (q := 125) rfl ?_
      refine Jvm.OwnW.aload O24 at_125 rfl rfl (q := 127) rfl ?_
      refine Jvm.OwnW.iconst O24 at_127 (r := (0 : Int32)) rfl (q := 128) rfl ?_
      refine Jvm.OwnW.iconst O24 at_128 (r := (0 : Int32)) rfl (q := 129) rfl ?_
      refine Jvm.OwnW.iasA O24 at_129 V_a24 (i := 0) rfl (by decide) (Or.inr N24) (q := 130) rfl ?_
      intro T25 h25 O25 W25
      have V_a24 : Ar Z h25 a24 .int 6 (lf [(.int (0 : Int32)), (.int (0 : Int32)), (.int (0 : Int32)), (.int (0 : Int32)), (.int (0 : Int32)), (.int (0 : Int32))]) := V_a24.setL W25 (by decide) (Nat.le_of_ble_eq_true rfl)
      have V_a18 := V_a18.other W25 ne_a18_a24
      refine Jvm.OwnW.aload O25 at_130 rfl rfl (q := 132) rfl ?_
      refine Jvm.OwnW.iconst O25 at_132 (r := (1 : Int32)) rfl (q := 133) rfl ?_
      refine Jvm.OwnW.iload O25 at_133 rfl (q := 135) rfl ?_
      refine Jvm.OwnW.iasA O25 at_135 V_a24 (i := 1) rfl (by decide) (Or.inr N24) (q := 136) rfl ?_
      intro T26 h26 O26 W26
      have V_a24 : Ar Z h26 a24 .int 6 (lf [(.int (0 : Int32)), (.int (1 : Int32)), (.int (0 : Int32)), (.int (0 : Int32)), (.int (0 : Int32)), (.int (0 : Int32))]) := V_a24.setL W26 (by decide) (Nat.le_of_ble_eq_true rfl)
      have V_a18 := V_a18.other W26 ne_a18_a24
      refine Jvm.OwnW.aload O26 at_136 rfl rfl (q := 138) rfl ?_
      refine Jvm.OwnW.iconst O26 at_138 (r := (2 : Int32)) rfl (q := 139) rfl ?_
      refine Jvm.OwnW.iload O26 at_139 rfl (q := 141) rfl ?_
      refine Jvm.OwnW.iloadN O26 at_141 rfl (q := 142) rfl ?_
      refine Jvm.OwnW.iadd O26 at_142 (r := (1 : Int32)) (by decide) (q := 143) rfl ?_
      refine Jvm.OwnW.iasA O26 at_143 V_a24 (i := 2) rfl (by decide) (Or.inr N24) (q := 144) rfl ?_
      intro T27 h27 O27 W27
      have V_a24 : Ar Z h27 a24 .int 6 (lf [(.int (0 : Int32)), (.int (1 : Int32)), (.int (1 : Int32)), (.int (0 : Int32)), (.int (0 : Int32)), (.int (0 : Int32))]) := V_a24.setL W27 (by decide) (Nat.le_of_ble_eq_true rfl)
      have V_a18 := V_a18.other W27 ne_a18_a24
      refine Jvm.OwnW.aload O27 at_144 rfl rfl (q := 146) rfl ?_
      refine Jvm.OwnW.iconst O27 at_146 (r := (3 : Int32)) rfl (q := 147) rfl ?_
      refine Jvm.OwnW.iload O27 at_147 rfl (q := 149) rfl ?_
      refine Jvm.OwnW.iloadN O27 at_149 rfl (q := 150) rfl ?_
      refine Jvm.OwnW.iadd O27 at_150 (r := (1 : Int32)) (by decide) (q := 151) rfl ?_
      refine Jvm.OwnW.iconst O27 at_151 (r := (1 : Int32)) rfl (q := 152) rfl ?_
      refine Jvm.OwnW.iadd O27 at_152 (r := (2 : Int32)) (by decide) (q := 153) rfl ?_
      refine Jvm.OwnW.iasA O27 at_153 V_a24 (i := 3) rfl (by decide) (Or.inr N24) (q := 154) rfl ?_
      intro T28 h28 O28 W28
      have V_a24 : Ar Z h28 a24 .int 6 (lf [(.int (0 : Int32)), (.int (1 : Int32)), (.int (1 : Int32)), (.int (2 : Int32)), (.int (0 : Int32)), (.int (0 : Int32))]) := V_a24.setL W28 (by decide) (Nat.le_of_ble_eq_true rfl)
      have V_a18 := V_a18.other W28 ne_a18_a24
      refine Jvm.OwnW.aload O28 at_154 rfl rfl (q := 156) rfl ?_
      refine Jvm.OwnW.iconst O28 at_156 (r := (4 : Int32)) rfl (q := 157) rfl ?_
      refine Jvm.OwnW.iload O28 at_157 rfl (q := 159) rfl ?_
      refine Jvm.OwnW.iconst O28 at_159 (r := (2 : Int32)) rfl (q := 160) rfl ?_
      refine Jvm.OwnW.iloadN O28 at_160 rfl (q := 161) rfl ?_
      refine Jvm.OwnW.imul O28 at_161 (r := (0 : Int32)) (by decide) (q := 162) rfl ?_
      refine Jvm.OwnW.iadd O28 at_162 (r := (1 : Int32)) (by decide) (q := 163) rfl ?_
      refine Jvm.OwnW.iconst O28 at_163 (r := (1 : Int32)) rfl (q := 164) rfl ?_
      refine Jvm.OwnW.iadd O28 at_164 (r := (2 : Int32)) (by decide) (q := 165) rfl ?_
      refine Jvm.OwnW.iasA O28 at_165 V_a24 (i := 4) rfl (by decide) (Or.inr N24) (q := 166) rfl ?_
      intro T29 h29 O29 W29
      have V_a24 : Ar Z h29 a24 .int 6 (lf [(.int (0 : Int32)), (.int (1 : Int32)), (.int (1 : Int32)), (.int (2 : Int32)), (.int (2 : Int32)), (.int (0 : Int32))]) := V_a24.setL W29 (by decide) (Nat.le_of_ble_eq_true rfl)
      have V_a18 := V_a18.other W29 ne_a18_a24
      refine Jvm.OwnW.aload O29 at_166 rfl rfl (q := 168) rfl ?_
      refine Jvm.OwnW.iconst O29 at_168 (r := (5 : Int32)) rfl (q := 169) rfl ?_
      refine Jvm.OwnW.iload O29 at_169 rfl (q := 171) rfl ?_
      refine Jvm.OwnW.iconst O29 at_171 (r := (2 : Int32)) rfl (q := 172) rfl ?_
      refine Jvm.OwnW.iloadN O29 at_172 rfl (q := 173) rfl ?_
      refine Jvm.OwnW.imul O29 at_173 (r := (0 : Int32)) (by decide) (q := 174) rfl ?_
      refine Jvm.OwnW.iadd O29 at_174 (r := (1 : Int32)) (by decide) (q := 175) rfl ?_
      refine Jvm.OwnW.iconst O29 at_175 (r := (2 : Int32)) rfl (q := 176) rfl ?_
      refine Jvm.OwnW.iadd O29 at_176 (r := (3 : Int32)) (by decide) (q := 177) rfl ?_
      refine Jvm.OwnW.iasA O29 at_177 V_a24 (i := 5) rfl (by decide) (Or.inr N24) (q := 178) rfl ?_
      intro T30 h30 O30 W30
      have V_a24 : Ar Z h30 a24 .int 6 (lf [(.int (0 : Int32)), (.int (1 : Int32)), (.int (1 : Int32)), (.int (2 : Int32)), (.int (2 : Int32)), (.int (3 : Int32))]) := V_a24.setL W30 (by decide) (Nat.le_of_ble_eq_true rfl)
      have V_a18 := V_a18.other W30 ne_a18_a24
      refine Jvm.OwnW.newO O30 at_178 (hw _ (List.mem_of_getElem? (i := 6) rfl)) (hw _ (List.mem_of_getElem? (i := 7) rfl)) (hw _ (List.mem_of_getElem? (i := 8) rfl)) (c2 := 3) (s2 := 18) rfl rfl (by decide) (by decide) (q := 181) rfl ?_
      intro a31 T31 h31 g31 N31 O31 X31 E_a31 D31
      have ne_a18_a31 : a18 ≠ a31 := Nat.ne_of_lt (Nat.lt_of_lt_of_le V_a18.lt (Nat.le_of_eq g31.symm))
      have ne_a24_a31 : a24 ≠ a31 := Nat.ne_of_lt (Nat.lt_of_lt_of_le V_a24.lt (Nat.le_of_eq g31.symm))
      have V_a18 := V_a18.ext X31
      have V_a24 := V_a24.ext X31
      have F_data_a31 : Fld Z h31 a31 "com/example/lamina/lamina/table/TextVector" "data" "[B" .null := D31 (Or.inl (hw _ (List.mem_of_getElem? (i := 16) rfl))) (ty := (.array .byte)) (by decide)
      have F_offsets_a31 : Fld Z h31 a31 "com/example/lamina/lamina/table/TextVector" "offsets" "[I" .null := D31 (Or.inl (hw _ (List.mem_of_getElem? (i := 18) rfl))) (ty := (.array .int)) (by decide)
      have F_size_a31 : Fld Z h31 a31 "com/example/lamina/lamina/table/TextVector" "size" "I" (.int (0 : Int32)) := D31 (Or.inl (hw _ (List.mem_of_getElem? (i := 25) rfl))) (ty := .int) (by decide)
      refine Jvm.OwnW.dup O31 at_181 rfl (q := 182) rfl ?_
      refine Jvm.OwnW.callI O31 (y := (⟨"com/example/lamina/lamina/table/TextVector", "<init>", "()V"⟩ : MethodName)) (a := a31) (argsL := []) (rest := [(.ref a31)]) at_182 rfl (hw _ (List.mem_of_getElem? (i := 9) rfl)) (hw _ (List.mem_of_getElem? (i := 10) rfl)) (hw _ (List.mem_of_getElem? (i := 8) rfl)) (hw _ (List.mem_of_getElem? (i := 11) rfl)) (by decide) (rm_i l Z a0 hw a31 h31 E_a31 F_data_a31 F_offsets_a31 F_size_a31) rfl pd_1 rfl (hst := rfl) (W := 1) (Nat.le_of_eq rfl) (by decide) (by decide) (c2 := 5) (s2 := 19) rfl rfl (by decide) (by decide) (allS (Or.inr N31) all0) (q := 185) rfl ?_
      intro v32 T32 h32 O32 K32 q32
      obtain ⟨rfl, b_a31, c_a31, F_data_a31, F_offsets_a31, F_size_a31⟩ := q32
      have V_a18 := V_a18.keep K32 (ninS ne_a18_a31 nin0)
      have V_a24 := V_a24.keep K32 (ninS ne_a24_a31 nin0)
      have E_a31 := E_a31.keep K32
      show Go C _ _ _ _ (T32.setTop (mkF C.m 185 #[.val (.int p0), .val (.int p1), .val (.int p2), .val (.int (0 : Int32)), .val (.int (1 : Int32)), .val (.int a0b), .val (.int a1b), .val (.int a2b), .val (.int xb), .val (.int yb), .val (.int zb), .val (.ref a18), .val (.ref a24), .unset] [(.ref a31)]))
      refine Jvm.OwnW.astore O32 at_185 rfl (L' := #[.val (.int p0), .val (.int p1), .val (.int p2), .val (.int (0 : Int32)), .val (.int (1 : Int32)), .val (.int a0b), .val (.int a1b), .val (.int a2b), .val (.int xb), .val (.int yb), .val (.int zb), .val (.ref a18), .val (.ref a24), .val (.ref a31)]) rfl (q := 187) rfl ?_
      refine Jvm.OwnW.aload O32 at_187 rfl rfl (q := 189) rfl ?_
      refine Jvm.OwnW.aload O32 at_189 rfl rfl (q := 191) rfl ?_
      refine Jvm.OwnW.aload O32 at_191 rfl rfl (q := 193) rfl ?_
      refine Jvm.OwnW.iconst O32 at_193 (r := (5 : Int32)) rfl (q := 194) rfl ?_
      refine Jvm.OwnW.callV O32 (y := (⟨"com/example/lamina/lamina/table/TextVector", "reset", "([B[II)V"⟩ : MethodName)) (z := (⟨"com/example/lamina/lamina/table/TextVector", "reset", "([B[II)V"⟩ : MethodName)) (a := a31) (argsL := [(.ref a18), (.ref a24), (.int (5 : Int32))]) (rest := []) at_194 (hw _ (List.mem_of_getElem? (i := 19) rfl)) (hw _ (List.mem_of_getElem? (i := 20) rfl)) (hw _ (List.mem_of_getElem? (i := 22) rfl)) rfl (hw _ (List.mem_of_getElem? (i := 21) rfl)) (hw _ (List.mem_of_getElem? (i := 8) rfl)) (hw _ (List.mem_of_getElem? (i := 23) rfl)) (by decide) (rm_r l Z a0 hw a31 a18 a24 (5 : Int32) _ _ _ h32 E_a31 F_data_a31 F_offsets_a31 F_size_a31) E_a31 rfl pd_2 rfl (hst := rfl) (W := 0) (Nat.le_of_eq rfl) (by decide) (by decide) (c2 := 5) (s2 := 19) rfl rfl (by decide) (by decide) (allS (Or.inr N31) all0) (q := 197) rfl ?_
      intro v33 T33 h33 O33 K33 q33
      obtain ⟨rfl, F_data_a31, F_offsets_a31, F_size_a31⟩ := q33
      have V_a18 := V_a18.keep K33 (ninS ne_a18_a31 nin0)
      have V_a24 := V_a24.keep K33 (ninS ne_a24_a31 nin0)
      have E_a31 := E_a31.keep K33
      show Go C _ _ _ _ (T33.setTop (mkF C.m 197 #[.val (.int p0), .val (.int p1), .val (.int p2), .val (.int (0 : Int32)), .val (.int (1 : Int32)), .val (.int a0b), .val (.int a1b), .val (.int a2b), .val (.int xb), .val (.int yb), .val (.int zb), .val (.ref a18), .val (.ref a24), .val (.ref a31)] []))
      refine Jvm.OwnW.aload O33 at_197 rfl rfl (q := 199) rfl ?_
      refine Jvm.OwnW.iconst O33 at_199 (r := (1 : Int32)) rfl (q := 200) rfl ?_
      refine Jvm.OwnW.callV0 O33 (y := (⟨"com/example/lamina/lamina/table/TextVector", "hashAt", "(I)I"⟩ : MethodName)) (z := (⟨"com/example/lamina/lamina/table/TextVector", "hashAt", "(I)I"⟩ : MethodName)) (a := a31) (argsL := [(.int (1 : Int32))]) (rest := []) at_200 (hw _ (List.mem_of_getElem? (i := 26) rfl)) (hw _ (List.mem_of_getElem? (i := 27) rfl)) (hw _ (List.mem_of_getElem? (i := 29) rfl)) rfl (hw _ (List.mem_of_getElem? (i := 28) rfl)) (hw _ (List.mem_of_getElem? (i := 8) rfl)) (hw _ (List.mem_of_getElem? (i := 30) rfl)) (by decide) (rm_h l Z a0 hw a31 (1 : Int32) a18 a24 9 6 1 1 1 (fun j => ([xb, yb, zb, (0 : Int32), (0 : Int32), (0 : Int32), (0 : Int32), (0 : Int32), (0 : Int32)] : List Int32).getD j 0) (fun j => ([(0 : Int32), (1 : Int32), (1 : Int32), (2 : Int32), (2 : Int32), (3 : Int32)] : List Int32).getD j 0) h33 E_a31 F_data_a31 F_offsets_a31 (V_a18.congr (lf_int [xb, yb, zb, (0 : Int32), (0 : Int32), (0 : Int32), (0 : Int32), (0 : Int32), (0 : Int32)])) (V_a24.congr (lf_int [(0 : Int32), (1 : Int32), (1 : Int32), (2 : Int32), (2 : Int32), (3 : Int32)])) rfl (by decide) rfl rfl (by decide) (by decide)) E_a31 rfl pd_3 rfl (hst := rfl) (W := 0) (Nat.le_of_eq rfl) (by decide) (by decide) (c2 := 5) (s2 := 19) rfl rfl (by decide) (by decide) rfl rfl (q := 203) rfl ?_
      intro v34 T34 O34 q34
      obtain rfl := q34
      show Go C _ _ _ _ (T34.setTop (mkF C.m 203 #[.val (.int p0), .val (.int p1), .val (.int p2), .val (.int (0 : Int32)), .val (.int (1 : Int32)), .val (.int a0b), .val (.int a1b), .val (.int a2b), .val (.int xb), .val (.int yb), .val (.int zb), .val (.ref a18), .val (.ref a24), .val (.ref a31)] [(.int (own_hash (fun j => ([xb, yb, zb, (0 : Int32), (0 : Int32), (0 : Int32), (0 : Int32), (0 : Int32), (0 : Int32)] : List Int32).getD j 0) 1 (1 - 1) 1))]))
      refine Jvm.OwnW.aload O34 at_203 rfl rfl (q := 205) rfl ?_
      refine Jvm.OwnW.iconst O34 at_205 (r := (3 : Int32)) rfl (q := 206) rfl ?_
      refine Jvm.OwnW.callV0 O34 (y := (⟨"com/example/lamina/lamina/table/TextVector", "hashAt", "(I)I"⟩ : MethodName)) (z := (⟨"com/example/lamina/lamina/table/TextVector", "hashAt", "(I)I"⟩ : MethodName)) (a := a31) (argsL := [(.int (3 : Int32))]) (rest := [(.int (own_hash (fun j => ([xb, yb, zb, (0 : Int32), (0 : Int32), (0 : Int32), (0 : Int32), (0 : Int32), (0 : Int32)] : List Int32).getD j 0) 1 (1 - 1) 1))]) at_206 (hw _ (List.mem_of_getElem? (i := 26) rfl)) (hw _ (List.mem_of_getElem? (i := 27) rfl)) (hw _ (List.mem_of_getElem? (i := 29) rfl)) rfl (hw _ (List.mem_of_getElem? (i := 28) rfl)) (hw _ (List.mem_of_getElem? (i := 8) rfl)) (hw _ (List.mem_of_getElem? (i := 30) rfl)) (by decide) (rm_h l Z a0 hw a31 (3 : Int32) a18 a24 9 6 3 2 2 (fun j => ([xb, yb, zb, (0 : Int32), (0 : Int32), (0 : Int32), (0 : Int32), (0 : Int32), (0 : Int32)] : List Int32).getD j 0) (fun j => ([(0 : Int32), (1 : Int32), (1 : Int32), (2 : Int32), (2 : Int32), (3 : Int32)] : List Int32).getD j 0) h33 E_a31 F_data_a31 F_offsets_a31 (V_a18.congr (lf_int [xb, yb, zb, (0 : Int32), (0 : Int32), (0 : Int32), (0 : Int32), (0 : Int32), (0 : Int32)])) (V_a24.congr (lf_int [(0 : Int32), (1 : Int32), (1 : Int32), (2 : Int32), (2 : Int32), (3 : Int32)])) rfl (by decide) rfl rfl (by decide) (by decide)) E_a31 rfl pd_3 rfl (hst := rfl) (W := 1) (Nat.le_of_eq rfl) (by decide) (by decide) (c2 := 5) (s2 := 19) rfl rfl (by decide) (by decide) rfl rfl (q := 209) rfl ?_
      intro v35 T35 O35 q35
      obtain rfl := q35
      show Go C _ _ _ _ (T35.setTop (mkF C.m 209 #[.val (.int p0), .val (.int p1), .val (.int p2), .val (.int (0 : Int32)), .val (.int (1 : Int32)), .val (.int a0b), .val (.int a1b), .val (.int a2b), .val (.int xb), .val (.int yb), .val (.int zb), .val (.ref a18), .val (.ref a24), .val (.ref a31)] [(.int (own_hash (fun j => ([xb, yb, zb, (0 : Int32), (0 : Int32), (0 : Int32), (0 : Int32), (0 : Int32), (0 : Int32)] : List Int32).getD j 0) 2 (2 - 2) 1)), (.int (own_hash (fun j => ([xb, yb, zb, (0 : Int32), (0 : Int32), (0 : Int32), (0 : Int32), (0 : Int32), (0 : Int32)] : List Int32).getD j 0) 1 (1 - 1) 1))]))
      refine Jvm.OwnW.icmpNo O35 at_209 (teq (show (own_hash (fun j => ([xb, yb, zb, (0 : Int32), (0 : Int32), (0 : Int32), (0 : Int32), (0 : Int32), (0 : Int32)] : List Int32).getD j 0) 1 (1 - 1) 1) = (own_hash (fun j => ([xb, yb, zb, (0 : Int32), (0 : Int32), (0 : Int32), (0 : Int32), (0 : Int32), (0 : Int32)] : List Int32).getD j 0) 2 (2 - 2) 1) from rfl)).2 (q := 212) rfl ?_
      refine Jvm.OwnW.iconst O35 at_212 (r := (1 : Int32)) rfl (q := 213) rfl ?_
      refine Jvm.OwnW.goto O35 at_213 (by decide) (q := 217) rfl ?_
      exact Jvm.OwnW.retB O35 at_217 rfl (Or.inr rfl) (by decide) (by decide) rfl
  · skip
    rcases hp2 with rfl | rfl
    · skip
      refine Jvm.OwnW.bipush O at_47 (r := (9 : Int32)) rfl (q := 49) rfl ?_
      refine Jvm.OwnW.newA' O at_49 (ty := .byte) rfl (hw _ (List.mem_of_getElem? (i := 0) rfl)) (N := 9) rfl (cap := 9) (by decide) (by decide) (c2 := 1) (s2 := 9) rfl rfl (by decide) (by decide) (q := 51) rfl ?_
      intro a36 T36 h36 g36 N36 O36 X36 V_a36
      have V_a36 : Ar Z h36 a36 .byte 9 (lf [(.int (0 : Int32)), (.int (0 : Int32)), (.int (0 : Int32)), (.int (0 : Int32)), (.int (0 : Int32)), (.int (0 : Int32)), (.int (0 : Int32)), (.int (0 : Int32)), (.int (0 : Int32))]) := V_a36.congr (lf_rep 9 _)
      refine Jvm.OwnW.astore O36 at_51 rfl (L' := #[.val (.int p0), .val (.int p1), .val (.int p2), .val (.int (1 : Int32)), .val (.int (0 : Int32)), .val (.int a0b), .val (.int a1b), .val (.int a2b), .val (.int xb), .val (.int yb), .val (.int zb), .val (.ref a36), .unset, .unset]) rfl (q := 53) rfl ?_
      refine Jvm.OwnW.iload O36 at_53 rfl (q := 55) rfl ?_
      refine Jvm.OwnW.iconst O36 at_55 (r := (1 : Int32)) rfl (q := 56) rfl ?_
      refine Jvm.OwnW.icmpYes O36 at_56 (feq (show ¬ ((0 : Int32) = (1 : Int32)) from (by decide))).2 (by decide) (q := 65) rfl ?_
      refine Jvm.OwnW.aload O36 at_65 rfl rfl (q := 67) rfl ?_
      refine Jvm.OwnW.iload O36 at_67 rfl (q := 69) rfl ?_
      refine Jvm.OwnW.iloadN O36 at_69 rfl (q := 70) rfl ?_
      refine Jvm.OwnW.iload O36 at_70 rfl (q := 72) rfl ?_
      refine Jvm.OwnW.iload O36 at_72 rfl (q := 74) rfl ?_
      refine Jvm.OwnW.iload O36 at_74 rfl (q := 76) rfl ?_
      refine Jvm.OwnW.callS O36 (y := (⟨"com/example/lamina/lamina/table/TextVectorHashAtPinLaw", "put", "([BIIBBB)V"⟩ : MethodName)) (argsL := [(.ref a36), (.int (0 : Int32)), (.int (1 : Int32)), (.int a0b), (.int a1b), (.int a2b)]) (rest := []) at_76 (hw _ (List.mem_of_getElem? (i := 1) rfl)) (hw _ (List.mem_of_getElem? (i := 2) rfl)) (hw _ (List.mem_of_getElem? (i := 3) rfl)) (hw _ (List.mem_of_getElem? (i := 4) rfl)) (by decide) (rm_p1 l Z a0 hw a36 (0 : Int32) a0b a1b a2b 0 _ h36 V_a36 rfl rfl (by decide) ba0b ba1b ba2b) rfl pd_0 rfl (hst := rfl) (W := 0) (Nat.le_of_eq rfl) (by decide) (by decide) (c2 := 1) (s2 := 9) rfl rfl (by decide) (by decide) (allS (Or.inr N36) all0) (q := 79) rfl ?_
      intro v37 T37 h37 O37 K37 q37
      obtain ⟨rfl, V_a36⟩ := q37
      have V_a36 : Ar Z h37 a36 .byte 9 (lf [(.int a0b), (.int (0 : Int32)), (.int (0 : Int32)), (.int (0 : Int32)), (.int (0 : Int32)), (.int (0 : Int32)), (.int (0 : Int32)), (.int (0 : Int32)), (.int (0 : Int32))]) := V_a36
      show Go C _ _ _ _ (T37.setTop (mkF C.m 79 #[.val (.int p0), .val (.int p1), .val (.int p2), .val (.int (1 : Int32)), .val (.int (0 : Int32)), .val (.int a0b), .val (.int a1b), .val (.int a2b), .val (.int xb), .val (.int yb), .val (.int zb), .val (.ref a36), .unset, .unset] []))
      refine Jvm.OwnW.aload O37 at_79 rfl rfl (q := 81) rfl ?_
      refine Jvm.OwnW.iload O37 at_81 rfl (q := 83) rfl ?_
      refine Jvm.OwnW.iloadN O37 at_83 rfl (q := 84) rfl ?_
      refine Jvm.OwnW.iadd O37 at_84 (r := (1 : Int32)) (by decide) (q := 85) rfl ?_
      refine Jvm.OwnW.iload O37 at_85 rfl (q := 87) rfl ?_
      refine Jvm.OwnW.basA O37 at_87 V_a36 (i := 1) rfl (by decide) (Or.inr N36) (y := yb) byb (q := 88) rfl ?_
      intro T38 h38 O38 W38
      have V_a36 : Ar Z h38 a36 .byte 9 (lf [(.int a0b), (.int yb), (.int (0 : Int32)), (.int (0 : Int32)), (.int (0 : Int32)), (.int (0 : Int32)), (.int (0 : Int32)), (.int (0 : Int32)), (.int (0 : Int32))]) := V_a36.setL W38 (by decide) (Nat.le_of_ble_eq_true rfl)
      refine Jvm.OwnW.aload O38 at_88 rfl rfl (q := 90) rfl ?_
      refine Jvm.OwnW.iload O38 at_90 rfl (q := 92) rfl ?_
      refine Jvm.OwnW.iloadN O38 at_92 rfl (q := 93) rfl ?_
      refine Jvm.OwnW.iadd O38 at_93 (r := (1 : Int32)) (by decide) (q := 94) rfl ?_
      refine Jvm.OwnW.iconst O38 at_94 (r := (1 : Int32)) rfl (q := 95) rfl ?_
      refine Jvm.OwnW.iadd O38 at_95 (r := (2 : Int32)) (by decide) (q := 96) rfl ?_
      refine Jvm.OwnW.iloadN O38 at_96 rfl (q := 97) rfl ?_
      refine Jvm.OwnW.iload O38 at_97 rfl (q := 99) rfl ?_
      refine Jvm.OwnW.iload O38 at_99 rfl (q := 101) rfl ?_
      refine Jvm.OwnW.iload O38 at_101 rfl (q := 103) rfl ?_
      refine Jvm.OwnW.callS O38 (y := (⟨"com/example/lamina/lamina/table/TextVectorHashAtPinLaw", "put", "([BIIBBB)V"⟩ : MethodName)) (argsL := [(.ref a36), (.int (2 : Int32)), (.int (1 : Int32)), (.int a0b), (.int a1b), (.int a2b)]) (rest := []) at_103 (hw _ (List.mem_of_getElem? (i := 1) rfl)) (hw _ (List.mem_of_getElem? (i := 2) rfl)) (hw _ (List.mem_of_getElem? (i := 3) rfl)) (hw _ (List.mem_of_getElem? (i := 4) rfl)) (by decide) (rm_p1 l Z a0 hw a36 (2 : Int32) a0b a1b a2b 2 _ h38 V_a36 rfl rfl (by decide) ba0b ba1b ba2b) rfl pd_0 rfl (hst := rfl) (W := 0) (Nat.le_of_eq rfl) (by decide) (by decide) (c2 := 1) (s2 := 9) rfl rfl (by decide) (by decide) (allS (Or.inr N36) all0) (q := 106) rfl ?_
      intro v39 T39 h39 O39 K39 q39
      obtain ⟨rfl, V_a36⟩ := q39
      have V_a36 : Ar Z h39 a36 .byte 9 (lf [(.int a0b), (.int yb), (.int a0b), (.int (0 : Int32)), (.int (0 : Int32)), (.int (0 : Int32)), (.int (0 : Int32)), (.int (0 : Int32)), (.int (0 : Int32))]) := V_a36
      show Go C _ _ _ _ (T39.setTop (mkF C.m 106 #[.val (.int p0), .val (.int p1), .val (.int p2), .val (.int (1 : Int32)), .val (.int (0 : Int32)), .val (.int a0b), .val (.int a1b), .val (.int a2b), .val (.int xb), .val (.int yb), .val (.int zb), .val (.ref a36), .unset, .unset] []))
      refine Jvm.OwnW.aload O39 at_106 rfl rfl (q := 108) rfl ?_
      refine Jvm.OwnW.iload O39 at_108 rfl (q := 110) rfl ?_
      refine Jvm.OwnW.iconst O39 at_110 (r := (2 : Int32)) rfl (q := 111) rfl ?_
      refine Jvm.OwnW.iloadN O39 at_111 rfl (q := 112) rfl ?_
      refine Jvm.OwnW.imul O39 at_112 (r := (2 : Int32)) (by decide) (q := 113) rfl ?_
      refine Jvm.OwnW.iadd O39 at_113 (r := (2 : Int32)) (by decide) (q := 114) rfl ?_
      refine Jvm.OwnW.iconst O39 at_114 (r := (1 : Int32)) rfl (q := 115) rfl ?_
      refine Jvm.OwnW.iadd O39 at_115 (r := (3 : Int32)) (by decide) (q := 116) rfl ?_
      refine Jvm.OwnW.iload O39 at_116 rfl (q := 118) rfl ?_
      refine Jvm.OwnW.basA O39 at_118 V_a36 (i := 3) rfl (by decide) (Or.inr N36) (y := zb) bzb (q := 119) rfl ?_
      intro T40 h40 O40 W40
      have V_a36 : Ar Z h40 a36 .byte 9 (lf [(.int a0b), (.int yb), (.int a0b), (.int zb), (.int (0 : Int32)), (.int (0 : Int32)), (.int (0 : Int32)), (.int (0 : Int32)), (.int (0 : Int32))]) := V_a36.setL W40 (by decide) (Nat.le_of_ble_eq_true rfl)
      refine Jvm.OwnW.bipush O40 at_119 (r := (6 : Int32)) rfl (q := 121) rfl ?_
      refine Jvm.OwnW.newA' O40 at_121 (ty := .int) rfl (hw _ (List.mem_of_getElem? (i := 5) rfl)) (N := 6) rfl (cap := 6) (by decide) (by decide) (c2 := 2) (s2 := 15) rfl rfl (by decide) (by decide) (q := 123) rfl ?_
      intro a41 T41 h41 g41 N41 O41 X41 V_a41
      have ne_a36_a41 : a36 ≠ a41 := Nat.ne_of_lt (Nat.lt_of_lt_of_le V_a36.lt (Nat.le_of_eq g41.symm))
      have V_a36 := V_a36.ext X41
      have V_a41 : Ar Z h41 a41 .int 6 (lf [(.int (0 : Int32)), (.int (0 : Int32)), (.int (0 : Int32)), (.int (0 : Int32)), (.int (0 : Int32)), (.int (0 : Int32))]) := V_a41.congr (lf_rep 6 _)
      refine Jvm.OwnW.astore O41 at_123 rfl (L' := #[.val (.int p0), .val (.int p1), .val (.int p2), .val (.int (1 : Int32)), .val (.int (0 : Int32)), .val (.int a0b), .val (.int a1b), .val (.int a2b), .val (.int xb), .val (.int yb), .val (.int zb), .val (.ref a36), .val (.ref a41), .unset]) rfl (q := 125) rfl ?_
      refine Jvm.OwnW.aload O41 at_125 rfl rfl (q := 127) rfl ?_
      refine Jvm.OwnW.iconst O41 at_127 (r := (0 : Int32)) rfl (q := 128) rfl ?_
      refine Jvm.OwnW.iconst O41 at_128 (r := (0 : Int32)) rfl (q := 129) rfl ?_
      refine Jvm.OwnW.iasA O41 at_129 V_a41 (i := 0) rfl (by decide) (Or.inr N41) (q := 130) rfl ?_
      intro T42 h42 O42 W42
      have V_a41 : Ar Z h42 a41 .int 6 (lf [(.int (0 : Int32)), (.int (0 : Int32)), (.int (0 : Int32)), (.int (0 : Int32)), (.int (0 : Int32)), (.int (0 : Int32))]) := V_a41.setL W42 (by decide) (Nat.le_of_ble_eq_true rfl)
      have V_a36 := V_a36.other W42 ne_a36_a41
      refine Jvm.OwnW.aload O42 at_130 rfl rfl (q := 132) rfl ?_
      refine Jvm.OwnW.iconst O42 at_132 (r := (1 : Int32)) rfl (q := 133) rfl ?_
      refine Jvm.OwnW.iload O42 at_133 rfl (q := 135) rfl ?_
      refine Jvm.OwnW.iasA O42 at_135 V_a41 (i := 1) rfl (by decide) (Or.inr N41) (q := 136) rfl ?_
      intro T43 h43 O43 W43
      have V_a41 : Ar Z h43 a41 .int 6 (lf [(.int (0 : Int32)), (.int (0 : Int32)), (.int (0 : Int32)), (.int (0 : Int32)), (.int (0 : Int32)), (.int (0 : Int32))]) := V_a41.setL W43 (by decide) (Nat.le_of_ble_eq_true rfl)
      have V_a36 := V_a36.other W43 ne_a36_a41
      refine Jvm.OwnW.aload O43 at_136 rfl rfl (q := 138) rfl ?_
      refine Jvm.OwnW.iconst O43 at_138 (r := (2 : Int32)) rfl (q := 139) rfl ?_
      refine Jvm.OwnW.iload O43 at_139 rfl (q := 141) rfl ?_
      refine Jvm.OwnW.iloadN O43 at_141 rfl (q := 142) rfl ?_
      refine Jvm.OwnW.iadd O43 at_142 (r := (1 : Int32)) (by decide) (q := 143) rfl ?_
      refine Jvm.OwnW.iasA O43 at_143 V_a41 (i := 2) rfl (by decide) (Or.inr N41) (q := 144) rfl ?_
      intro T44 h44 O44 W44
      have V_a41 : Ar Z h44 a41 .int 6 (lf [(.int (0 : Int32)), (.int (0 : Int32)), (.int (1 : Int32)), (.int (0 : Int32)), (.int (0 : Int32)), (.int (0 : Int32))]) := V_a41.setL W44 (by decide) (Nat.le_of_ble_eq_true rfl)
      have V_a36 := V_a36.other W44 ne_a36_a41
      refine Jvm.OwnW.aload O44 at_144 rfl rfl (q := 146) rfl ?_
      refine Jvm.OwnW.iconst O44 at_146 (r := (3 : Int32)) rfl (q := 147) rfl ?_
      refine Jvm.OwnW.iload O44 at_147 rfl (q := 149) rfl ?_
      refine Jvm.OwnW.iloadN O44 at_149 rfl (q := 150) rfl ?_
      refine Jvm.OwnW.iadd O44 at_150 (r := (1 : Int32)) (by decide) (q := 151) rfl ?_
      refine Jvm.OwnW.iconst O44 at_151 (r := (1 : Int32)) rfl (q := 152) rfl ?_
      refine Jvm.OwnW.iadd O44 at_152 (r := (2 : Int32)) (by decide) (q := 153) rfl ?_
      refine Jvm.OwnW.iasA O44 at_153 V_a41 (i := 3) rfl (by decide) (Or.inr N41) (q := 154) rfl ?_
      intro T45 h45 O45 W45
      have V_a41 : Ar Z h45 a41 .int 6 (lf [(.int (0 : Int32)), (.int (0 : Int32)), (.int (1 : Int32)), (.int (2 : Int32)), (.int (0 : Int32)), (.int (0 : Int32))]) := V_a41.setL W45 (by decide) (Nat.le_of_ble_eq_true rfl)
      have V_a36 := V_a36.other W45 ne_a36_a41
      refine Jvm.OwnW.aload O45 at_154 rfl rfl (q := 156) rfl ?_
      refine Jvm.OwnW.iconst O45 at_156 (r := (4 : Int32)) rfl (q := 157) rfl ?_
      refine Jvm.OwnW.iload O45 at_157 rfl (q := 159) rfl ?_
      refine Jvm.OwnW.iconst O45 at_159 (r := (2 : Int32)) rfl (q := 160) rfl ?_
      refine Jvm.OwnW.iloadN O45 at_160 rfl (q := 161) rfl ?_
      refine Jvm.OwnW.imul O45 at_161 (r := (2 : Int32)) (by decide) (q := 162) rfl ?_
      refine Jvm.OwnW.iadd O45 at_162 (r := (2 : Int32)) (by decide) (q := 163) rfl ?_
      refine Jvm.OwnW.iconst O45 at_163 (r := (1 : Int32)) rfl (q := 164) rfl ?_
      refine Jvm.OwnW.iadd O45 at_164 (r := (3 : Int32)) (by decide) (q := 165) rfl ?_
      refine Jvm.OwnW.iasA O45 at_165 V_a41 (i := 4) rfl (by decide) (Or.inr N41) (q := 166) rfl ?_
      intro T46 h46 O46 W46
      have V_a41 : Ar Z h46 a41 .int 6 (lf [(.int (0 : Int32)), (.int (0 : Int32)), (.int (1 : Int32)), (.int (2 : Int32)), (.int (3 : Int32)), (.int (0 : Int32))]) := V_a41.setL W46 (by decide) (Nat.le_of_ble_eq_true rfl)
      have V_a36 := V_a36.other W46 ne_a36_a41
      refine Jvm.OwnW.aload O46 at_166 rfl rfl (q := 168) rfl ?_
      refine Jvm.OwnW.iconst O46 at_168 (r := (5 : Int32)) rfl (q := 169) rfl ?_
      refine Jvm.OwnW.iload O46 at_169 rfl (q := 171) rfl ?_
      refine Jvm.OwnW.iconst O46 at_171 (r := (2 : Int32)) rfl (q := 172) rfl ?_
      refine Jvm.OwnW.iloadN O46 at_172 rfl (q := 173) rfl ?_
      refine Jvm.OwnW.imul O46 at_173 (r := (2 : Int32)) (by decide) (q := 174) rfl ?_
      refine Jvm.OwnW.iadd O46 at_174 (r := (2 : Int32)) (by decide) (q := 175) rfl ?_
      refine Jvm.OwnW.iconst O46 at_175 (r := (2 : Int32)) rfl (q := 176) rfl ?_
      refine Jvm.OwnW.iadd O46 at_176 (r := (4 : Int32)) (by decide) (q := 177) rfl ?_
      refine Jvm.OwnW.iasA O46 at_177 V_a41 (i := 5) rfl (by decide) (Or.inr N41) (q := 178) rfl ?_
      intro T47 h47 O47 W47
      have V_a41 : Ar Z h47 a41 .int 6 (lf [(.int (0 : Int32)), (.int (0 : Int32)), (.int (1 : Int32)), (.int (2 : Int32)), (.int (3 : Int32)), (.int (4 : Int32))]) := V_a41.setL W47 (by decide) (Nat.le_of_ble_eq_true rfl)
      have V_a36 := V_a36.other W47 ne_a36_a41
      refine Jvm.OwnW.newO O47 at_178 (hw _ (List.mem_of_getElem? (i := 6) rfl)) (hw _ (List.mem_of_getElem? (i := 7) rfl)) (hw _ (List.mem_of_getElem? (i := 8) rfl)) (c2 := 3) (s2 := 18) rfl rfl (by decide) (by decide) (q := 181) rfl ?_
      intro a48 T48 h48 g48 N48 O48 X48 E_a48 D48
      have ne_a36_a48 : a36 ≠ a48 := Nat.ne_of_lt (Nat.lt_of_lt_of_le V_a36.lt (Nat.le_of_eq g48.symm))
      have ne_a41_a48 : a41 ≠ a48 := Nat.ne_of_lt (Nat.lt_of_lt_of_le V_a41.lt (Nat.le_of_eq g48.symm))
      have V_a36 := V_a36.ext X48
      have V_a41 := V_a41.ext X48
      have F_data_a48 : Fld Z h48 a48 "com/example/lamina/lamina/table/TextVector" "data" "[B" .null := D48 (Or.inl (hw _ (List.mem_of_getElem? (i := 16) rfl))) (ty := (.array .byte)) (by decide)
      have F_offsets_a48 : Fld Z h48 a48 "com/example/lamina/lamina/table/TextVector" "offsets" "[I" .null := D48 (Or.inl (hw _ (List.mem_of_getElem? (i := 18) rfl))) (ty := (.array .int)) (by decide)
      have F_size_a48 : Fld Z h48 a48 "com/example/lamina/lamina/table/TextVector" "size" "I" (.int (0 : Int32)) := D48 (Or.inl (hw _ (List.mem_of_getElem? (i := 25) rfl))) (ty := .int) (by decide)
      refine Jvm.OwnW.dup O48 at_181 rfl (q := 182) rfl ?_
      refine Jvm.OwnW.callI O48 (y := (⟨"com/example/lamina/lamina/table/TextVector", "<init>", "()V"⟩ : MethodName)) (a := a48) (argsL := []) (rest := [(.ref a48)]) at_182 rfl (hw _ (List.mem_of_getElem? (i := 9) rfl)) (hw _ (List.mem_of_getElem? (i := 10) rfl)) (hw _ (List.mem_of_getElem? (i := 8) rfl)) (hw _ (List.mem_of_getElem? (i := 11) rfl)) (by decide) (rm_i l Z a0 hw a48 h48 E_a48 F_data_a48 F_offsets_a48 F_size_a48) rfl pd_1 rfl (hst := rfl) (W := 1) (Nat.le_of_eq rfl) (by decide) (by decide) (c2 := 5) (s2 := 19) rfl rfl (by decide) (by decide) (allS (Or.inr N48) all0) (q := 185) rfl ?_
      intro v49 T49 h49 O49 K49 q49
      obtain ⟨rfl, b_a48, c_a48, F_data_a48, F_offsets_a48, F_size_a48⟩ := q49
      have V_a36 := V_a36.keep K49 (ninS ne_a36_a48 nin0)
      have V_a41 := V_a41.keep K49 (ninS ne_a41_a48 nin0)
      have E_a48 := E_a48.keep K49
      show Go C _ _ _ _ (T49.setTop (mkF C.m 185 #[.val (.int p0), .val (.int p1), .val (.int p2), .val (.int (1 : Int32)), .val (.int (0 : Int32)), .val (.int a0b), .val (.int a1b), .val (.int a2b), .val (.int xb), .val (.int yb), .val (.int zb), .val (.ref a36), .val (.ref a41), .unset] [(.ref a48)]))
      refine Jvm.OwnW.astore O49 at_185 rfl (L' := #[.val (.int p0), .val (.int p1), .val (.int p2), .val (.int (1 : Int32)), .val (.int (0 : Int32)), .val (.int a0b), .val (.int a1b), .val (.int a2b), .val (.int xb), .val (.int yb), .val (.int zb), .val (.ref a36), .val (.ref a41), .val (.ref a48)]) rfl (q := 187) rfl ?_
      refine Jvm.OwnW.aload O49 at_187 rfl rfl (q := 189) rfl ?_
      refine Jvm.OwnW.aload O49 at_189 rfl rfl (q := 191) rfl ?_
      refine Jvm.OwnW.aload O49 at_191 rfl rfl (q := 193) rfl ?_
      refine Jvm.OwnW.iconst O49 at_193 (r := (5 : Int32)) rfl (q := 194) rfl ?_
      refine Jvm.OwnW.callV O49 (y := (⟨"com/example/lamina/lamina/table/TextVector", "reset", "([B[II)V"⟩ : MethodName)) (z := (⟨"com/example/lamina/lamina/table/TextVector", "reset", "([B[II)V"⟩ : MethodName)) (a := a48) (argsL := [(.ref a36), (.ref a41), (.int (5 : Int32))]) (rest := []) at_194 (hw _ (List.mem_of_getElem? (i := 19) rfl)) (hw _ (List.mem_of_getElem? (i := 20) rfl)) (hw _ (List.mem_of_getElem? (i := 22) rfl)) rfl (hw _ (List.mem_of_getElem? (i := 21) rfl)) (hw _ (List.mem_of_getElem? (i := 8) rfl)) (hw _ (List.mem_of_getElem? (i := 23) rfl)) (by decide) (rm_r l Z a0 hw a48 a36 a41 (5 : Int32) _ _ _ h49 E_a48 F_data_a48 F_offsets_a48 F_size_a48) E_a48 rfl pd_2 rfl (hst := rfl) (W := 0) (Nat.le_of_eq rfl) (by decide) (by decide) (c2 := 5) (s2 := 19) rfl rfl (by decide) (by decide) (allS (Or.inr N48) all0) (q := 197) rfl ?_
      intro v50 T50 h50 O50 K50 q50
      obtain ⟨rfl, F_data_a48, F_offsets_a48, F_size_a48⟩ := q50
      have V_a36 := V_a36.keep K50 (ninS ne_a36_a48 nin0)
      have V_a41 := V_a41.keep K50 (ninS ne_a41_a48 nin0)
      have E_a48 := E_a48.keep K50
      show Go C _ _ _ _ (T50.setTop (mkF C.m 197 #[.val (.int p0), .val (.int p1), .val (.int p2), .val (.int (1 : Int32)), .val (.int (0 : Int32)), .val (.int a0b), .val (.int a1b), .val (.int a2b), .val (.int xb), .val (.int yb), .val (.int zb), .val (.ref a36), .val (.ref a41), .val (.ref a48)] []))
      refine Jvm.OwnW.aload O50 at_197 rfl rfl (q := 199) rfl ?_
      refine Jvm.OwnW.iconst O50 at_199 (r := (1 : Int32)) rfl (q := 200) rfl ?_
      refine Jvm.OwnW.callV0 O50 (y := (⟨"com/example/lamina/lamina/table/TextVector", "hashAt", "(I)I"⟩ : MethodName)) (z := (⟨"com/example/lamina/lamina/table/TextVector", "hashAt", "(I)I"⟩ : MethodName)) (a := a48) (argsL := [(.int (1 : Int32))]) (rest := []) at_200 (hw _ (List.mem_of_getElem? (i := 26) rfl)) (hw _ (List.mem_of_getElem? (i := 27) rfl)) (hw _ (List.mem_of_getElem? (i := 29) rfl)) rfl (hw _ (List.mem_of_getElem? (i := 28) rfl)) (hw _ (List.mem_of_getElem? (i := 8) rfl)) (hw _ (List.mem_of_getElem? (i := 30) rfl)) (by decide) (rm_h l Z a0 hw a48 (1 : Int32) a36 a41 9 6 1 0 1 (fun j => ([a0b, yb, a0b, zb, (0 : Int32), (0 : Int32), (0 : Int32), (0 : Int32), (0 : Int32)] : List Int32).getD j 0) (fun j => ([(0 : Int32), (0 : Int32), (1 : Int32), (2 : Int32), (3 : Int32), (4 : Int32)] : List Int32).getD j 0) h50 E_a48 F_data_a48 F_offsets_a48 (V_a36.congr (lf_int [a0b, yb, a0b, zb, (0 : Int32), (0 : Int32), (0 : Int32), (0 : Int32), (0 : Int32)])) (V_a41.congr (lf_int [(0 : Int32), (0 : Int32), (1 : Int32), (2 : Int32), (3 : Int32), (4 : Int32)])) rfl (by decide) rfl rfl (by decide) (by decide)) E_a48 rfl pd_3 rfl (hst := rfl) (W := 0) (Nat.le_of_eq rfl) (by decide) (by decide) (c2 := 5) (s2 := 19) rfl rfl (by decide) (by decide) rfl rfl (q := 203) rfl ?_
      intro v51 T51 O51 q51
      obtain rfl := q51
      show Go C _ _ _ _ (T51.setTop (mkF C.m 203 #[.val (.int p0), .val (.int p1), .val (.int p2), .val (.int (1 : Int32)), .val (.int (0 : Int32)), .val (.int a0b), .val (.int a1b), .val (.int a2b), .val (.int xb), .val (.int yb), .val (.int zb), .val (.ref a36), .val (.ref a41), .val (.ref a48)] [(.int (own_hash (fun j => ([a0b, yb, a0b, zb, (0 : Int32), (0 : Int32), (0 : Int32), (0 : Int32), (0 : Int32)] : List Int32).getD j 0) 0 (1 - 0) 1))]))
      refine Jvm.OwnW.aload O51 at_203 rfl rfl (q := 205) rfl ?_
      refine Jvm.OwnW.iconst O51 at_205 (r := (3 : Int32)) rfl (q := 206) rfl ?_
      refine Jvm.OwnW.callV0 O51 (y := (⟨"com/example/lamina/lamina/table/TextVector", "hashAt", "(I)I"⟩ : MethodName)) (z := (⟨"com/example/lamina/lamina/table/TextVector", "hashAt", "(I)I"⟩ : MethodName)) (a := a48) (argsL := [(.int (3 : Int32))]) (rest := [(.int (own_hash (fun j => ([a0b, yb, a0b, zb, (0 : Int32), (0 : Int32), (0 : Int32), (0 : Int32), (0 : Int32)] : List Int32).getD j 0) 0 (1 - 0) 1))]) at_206 (hw _ (List.mem_of_getElem? (i := 26) rfl)) (hw _ (List.mem_of_getElem? (i := 27) rfl)) (hw _ (List.mem_of_getElem? (i := 29) rfl)) rfl (hw _ (List.mem_of_getElem? (i := 28) rfl)) (hw _ (List.mem_of_getElem? (i := 8) rfl)) (hw _ (List.mem_of_getElem? (i := 30) rfl)) (by decide) (rm_h l Z a0 hw a48 (3 : Int32) a36 a41 9 6 3 2 3 (fun j => ([a0b, yb, a0b, zb, (0 : Int32), (0 : Int32), (0 : Int32), (0 : Int32), (0 : Int32)] : List Int32).getD j 0) (fun j => ([(0 : Int32), (0 : Int32), (1 : Int32), (2 : Int32), (3 : Int32), (4 : Int32)] : List Int32).getD j 0) h50 E_a48 F_data_a48 F_offsets_a48 (V_a36.congr (lf_int [a0b, yb, a0b, zb, (0 : Int32), (0 : Int32), (0 : Int32), (0 : Int32), (0 : Int32)])) (V_a41.congr (lf_int [(0 : Int32), (0 : Int32), (1 : Int32), (2 : Int32), (3 : Int32), (4 : Int32)])) rfl (by decide) rfl rfl (by decide) (by decide)) E_a48 rfl pd_3 rfl (hst := rfl) (W := 1) (Nat.le_of_eq rfl) (by decide) (by decide) (c2 := 5) (s2 := 19) rfl rfl (by decide) (by decide) rfl rfl (q := 209) rfl ?_
      intro v52 T52 O52 q52
      obtain rfl := q52
      show Go C _ _ _ _ (T52.setTop (mkF C.m 209 #[.val (.int p0), .val (.int p1), .val (.int p2), .val (.int (1 : Int32)), .val (.int (0 : Int32)), .val (.int a0b), .val (.int a1b), .val (.int a2b), .val (.int xb), .val (.int yb), .val (.int zb), .val (.ref a36), .val (.ref a41), .val (.ref a48)] [(.int (own_hash (fun j => ([a0b, yb, a0b, zb, (0 : Int32), (0 : Int32), (0 : Int32), (0 : Int32), (0 : Int32)] : List Int32).getD j 0) 2 (3 - 2) 1)), (.int (own_hash (fun j => ([a0b, yb, a0b, zb, (0 : Int32), (0 : Int32), (0 : Int32), (0 : Int32), (0 : Int32)] : List Int32).getD j 0) 0 (1 - 0) 1))]))
      refine Jvm.OwnW.icmpNo O52 at_209 (teq (show (own_hash (fun j => ([a0b, yb, a0b, zb, (0 : Int32), (0 : Int32), (0 : Int32), (0 : Int32), (0 : Int32)] : List Int32).getD j 0) 0 (1 - 0) 1) = (own_hash (fun j => ([a0b, yb, a0b, zb, (0 : Int32), (0 : Int32), (0 : Int32), (0 : Int32), (0 : Int32)] : List Int32).getD j 0) 2 (3 - 2) 1) from rfl)).2 (q := 212) rfl ?_
      refine Jvm.OwnW.iconst O52 at_212 (r := (1 : Int32)) rfl (q := 213) rfl ?_
      refine Jvm.OwnW.goto O52 at_213 (by decide) (q := 217) rfl ?_
      exact Jvm.OwnW.retB O52 at_217 rfl (Or.inr rfl) (by decide) (by decide) rfl
    · skip
      refine Jvm.OwnW.bipush O at_47 (r := (9 : Int32)) rfl (q := 49) rfl ?_
      refine Jvm.OwnW.newA' O at_49 (ty := .byte) rfl (hw _ (List.mem_of_getElem? (i := 0) rfl)) (N := 9) rfl (cap := 9) (by decide) (by decide) (c2 := 1) (s2 := 9) rfl rfl (by decide) (by decide) (q := 51) rfl ?_
      intro a53 T53 h53 g53 N53 O53 X53 V_a53
      have V_a53 : Ar Z h53 a53 .byte 9 (lf [(.int (0 : Int32)), (.int (0 : Int32)), (.int (0 : Int32)), (.int (0 : Int32)), (.int (0 : Int32)), (.int (0 : Int32)), (.int (0 : Int32)), (.int (0 : Int32)), (.int (0 : Int32))]) := V_a53.congr (lf_rep 9 _)
      refine Jvm.OwnW.astore O53 at_51 rfl (L' := #[.val (.int p0), .val (.int p1), .val (.int p2), .val (.int (1 : Int32)), .val (.int (1 : Int32)), .val (.int a0b), .val (.int a1b), .val (.int a2b), .val (.int xb), .val (.int yb), .val (.int zb), .val (.ref a53), .unset, .unset]) rfl (q := 53) rfl ?_
      refine Jvm.OwnW.iload O53 at_53 rfl (q := 55) rfl ?_
      refine Jvm.OwnW.iconst O53 at_55 (r := (1 : Int32)) rfl (q := 56) rfl ?_
      refine Jvm.OwnW.icmpNo O53 at_56 (teq (show (1 : Int32) = (1 : Int32) from (by decide))).2 (q := 59) rfl ?_
      refine Jvm.OwnW.aload O53 at_59 rfl rfl (q := 61) rfl ?_
      refine Jvm.OwnW.iconst O53 at_61 (r := (0 : Int32)) rfl (q := 62) rfl ?_
      refine Jvm.OwnW.iload O53 at_62 rfl (q := 64) rfl ?_
      refine Jvm.OwnW.basA O53 at_64 V_a53 (i := 0) rfl (by decide) (Or.inr N53) (y := xb) bxb (q := 65) rfl ?_
      intro T54 h54 O54 W54
      have V_a53 : Ar Z h54 a53 .byte 9 (lf [(.int xb), (.int (0 : Int32)), (.int (0 : Int32)), (.int (0 : Int32)), (.int (0 : Int32)), (.int (0 : Int32)), (.int (0 : Int32)), (.int (0 : Int32)), (.int (0 : Int32))]) := V_a53.setL W54 (by decide) (Nat.le_of_ble_eq_true rfl)
      refine Jvm.OwnW.aload O54 at_65 rfl rfl (q := 67) rfl ?_
      refine Jvm.OwnW.iload O54 at_67 rfl (q := 69) rfl ?_
      refine Jvm.OwnW.iloadN O54 at_69 rfl (q := 70) rfl ?_
      refine Jvm.OwnW.iload O54 at_70 rfl (q := 72) rfl ?_
      refine Jvm.OwnW.iload O54 at_72 rfl (q := 74) rfl ?_
      refine Jvm.OwnW.iload O54 at_74 rfl (q := 76) rfl ?_
      refine Jvm.OwnW.callS O54 (y := (⟨"com/example/lamina/lamina/table/TextVectorHashAtPinLaw", "put", "([BIIBBB)V"⟩ : MethodName)) (argsL := [(.ref a53), (.int (1 : Int32)), (.int (1 : Int32)), (.int a0b), (.int a1b), (.int a2b)]) (rest := []) at_76 (hw _ (List.mem_of_getElem? (i := 1) rfl)) (hw _ (List.mem_of_getElem? (i := 2) rfl)) (hw _ (List.mem_of_getElem? (i := 3) rfl)) (hw _ (List.mem_of_getElem? (i := 4) rfl)) (by decide) (rm_p1 l Z a0 hw a53 (1 : Int32) a0b a1b a2b 1 _ h54 V_a53 rfl rfl (by decide) ba0b ba1b ba2b) rfl pd_0 rfl (hst := rfl) (W := 0) (Nat.le_of_eq rfl) (by decide) (by decide) (c2 := 1) (s2 := 9) rfl rfl (by decide) (by decide) (allS (Or.inr N53) all0) (q := 79) rfl ?_
      intro v55 T55 h55 O55 K55 q55
      obtain ⟨rfl, V_a53⟩ := q55
      have V_a53 : Ar Z h55 a53 .byte 9 (lf [(.int xb), (.int a0b), (.int (0 : Int32)), (.int (0 : Int32)), (.int (0 : Int32)), (.int (0 : Int32)), (.int (0 : Int32)), (.int (0 : Int32)), (.int (0 : Int32))]) := V_a53
      show Go C _ _ _ _ (T55.setTop (mkF C.m 79 #[.val (.int p0), .val (.int p1), .val (.int p2), .val (.int (1 : Int32)), .val (.int (1 : Int32)), .val (.int a0b), .val (.int a1b), .val (.int a2b), .val (.int xb), .val (.int yb), .val (.int zb), .val (.ref a53), .unset, .unset] []))
      refine Jvm.OwnW.aload O55 at_79 rfl rfl (q := 81) rfl ?_
      refine Jvm.OwnW.iload O55 at_81 rfl (q := 83) rfl ?_
      refine Jvm.OwnW.iloadN O55 at_83 rfl (q := 84) rfl ?_
      refine Jvm.OwnW.iadd O55 at_84 (r := (2 : Int32)) (by decide) (q := 85) rfl ?_
      refine Jvm.OwnW.iload O55 at_85 rfl (q := 87) rfl ?_
      refine Jvm.OwnW.basA O55 at_87 V_a53 (i := 2) rfl (by decide) (Or.inr N53) (y := yb) byb (q := 88) rfl ?_
      intro T56 h56 O56 W56
      have V_a53 : Ar Z h56 a53 .byte 9 (lf [(.int xb), (.int a0b), (.int yb), (.int (0 : Int32)), (.int (0 : Int32)), (.int (0 : Int32)), (.int (0 : Int32)), (.int (0 : Int32)), (.int (0 : Int32))]) := V_a53.setL W56 (by decide) (Nat.le_of_ble_eq_true rfl)
      refine Jvm.OwnW.aload O56 at_88 rfl rfl (q := 90) rfl ?_
      refine Jvm.OwnW.iload O56 at_90 rfl (q := 92) rfl ?_
      refine Jvm.OwnW.iloadN O56 at_92 rfl (q := 93) rfl ?_
      refine Jvm.OwnW.iadd O56 at_93 (r := (2 : Int32)) (by decide) (q := 94) rfl ?_
      refine Jvm.OwnW.iconst O56 at_94 (r := (1 : Int32)) rfl (q := 95) rfl ?_
      refine Jvm.OwnW.iadd O56 at_95 (r := (3 : Int32)) (by decide) (q := 96) rfl ?_
      refine Jvm.OwnW.iloadN O56 at_96 rfl (q := 97) rfl ?_
      refine Jvm.OwnW.iload O56 at_97 rfl (q := 99) rfl ?_
      refine Jvm.OwnW.iload O56 at_99 rfl (q := 101) rfl ?_
      refine Jvm.OwnW.iload O56 at_101 rfl (q := 103) rfl ?_
      refine Jvm.OwnW.callS O56 (y := (⟨"com/example/lamina/lamina/table/TextVectorHashAtPinLaw", "put", "([BIIBBB)V"⟩ : MethodName)) (argsL := [(.ref a53), (.int (3 : Int32)), (.int (1 : Int32)), (.int a0b), (.int a1b), (.int a2b)]) (rest := []) at_103 (hw _ (List.mem_of_getElem? (i := 1) rfl)) (hw _ (List.mem_of_getElem? (i := 2) rfl)) (hw _ (List.mem_of_getElem? (i := 3) rfl)) (hw _ (List.mem_of_getElem? (i := 4) rfl)) (by decide) (rm_p1 l Z a0 hw a53 (3 : Int32) a0b a1b a2b 3 _ h56 V_a53 rfl rfl (by decide) ba0b ba1b ba2b) rfl pd_0 rfl (hst := rfl) (W := 0) (Nat.le_of_eq rfl) (by decide) (by decide) (c2 := 1) (s2 := 9) rfl rfl (by decide) (by decide) (allS (Or.inr N53) all0) (q := 106) rfl ?_
      intro v57 T57 h57 O57 K57 q57
      obtain ⟨rfl, V_a53⟩ := q57
      have V_a53 : Ar Z h57 a53 .byte 9 (lf [(.int xb), (.int a0b), (.int yb), (.int a0b), (.int (0 : Int32)), (.int (0 : Int32)), (.int (0 : Int32)), (.int (0 : Int32)), (.int (0 : Int32))]) := V_a53
      show Go C _ _ _ _ (T57.setTop (mkF C.m 106 #[.val (.int p0), .val (.int p1), .val (.int p2), .val (.int (1 : Int32)), .val (.int (1 : Int32)), .val (.int a0b), .val (.int a1b), .val (.int a2b), .val (.int xb), .val (.int yb), .val (.int zb), .val (.ref a53), .unset, .unset] []))
      refine Jvm.OwnW.aload O57 at_106 rfl rfl (q := 108) rfl ?_
      refine Jvm.OwnW.iload O57 at_108 rfl (q := 110) rfl ?_
      refine Jvm.OwnW.iconst O57 at_110 (r := (2 : Int32)) rfl (q := 111) rfl ?_
      refine Jvm.OwnW.iloadN O57 at_111 rfl (q := 112) rfl ?_
      refine Jvm.OwnW.imul O57 at_112 (r := (2 : Int32)) (by decide) (q := 113) rfl ?_
      refine Jvm.OwnW.iadd O57 at_113 (r := (3 : Int32)) (by decide) (q := 114) rfl ?_
      refine Jvm.OwnW.iconst O57 at_114 (r := (1 : Int32)) rfl (q := 115) rfl ?_
      refine Jvm.OwnW.iadd O57 at_115 (r := (4 : Int32)) (by decide) (q := 116) rfl ?_
      refine Jvm.OwnW.iload O57 at_116 rfl (q := 118) rfl ?_
      refine Jvm.OwnW.basA O57 at_118 V_a53 (i := 4) rfl (by decide) (Or.inr N53) (y := zb) bzb (q := 119) rfl ?_
      intro T58 h58 O58 W58
      have V_a53 : Ar Z h58 a53 .byte 9 (lf [(.int xb), (.int a0b), (.int yb), (.int a0b), (.int zb), (.int (0 : Int32)), (.int (0 : Int32)), (.int (0 : Int32)), (.int (0 : Int32))]) := V_a53.setL W58 (by decide) (Nat.le_of_ble_eq_true rfl)
      refine Jvm.OwnW.bipush O58 at_119 (r := (6 : Int32)) rfl (q := 121) rfl ?_
      refine Jvm.OwnW.newA' O58 at_121 (ty := .int) rfl (hw _ (List.mem_of_getElem? (i := 5) rfl)) (N := 6) rfl (cap := 6) (by decide) (by decide) (c2 := 2) (s2 := 15) rfl rfl (by decide) (by decide) (q := 123) rfl ?_
      intro a59 T59 h59 g59 N59 O59 X59 V_a59
      have ne_a53_a59 : a53 ≠ a59 := Nat.ne_of_lt (Nat.lt_of_lt_of_le V_a53.lt (Nat.le_of_eq g59.symm))
      have V_a53 := V_a53.ext X59
      have V_a59 : Ar Z h59 a59 .int 6 (lf [(.int (0 : Int32)), (.int (0 : Int32)), (.int (0 : Int32)), (.int (0 : Int32)), (.int (0 : Int32)), (.int (0 : Int32))]) := V_a59.congr (lf_rep 6 _)
      refine Jvm.OwnW.astore O59 at_123 rfl (L' := #[.val (.int p0), .val (.int p1), .val (.int p2), .val (.int (1 : Int32)), .val (.int (1 : Int32)), .val (.int a0b), .val (.int a1b), .val (.int a2b), .val (.int xb), .val (.int yb), .val (.int zb), .val (.ref a53), .val (.ref a59), .unset]) rfl (q := 125) rfl ?_
      refine Jvm.OwnW.aload O59 at_125 rfl rfl (q := 127) rfl ?_
      refine Jvm.OwnW.iconst O59 at_127 (r := (0 : Int32)) rfl (q := 128) rfl ?_
      refine Jvm.OwnW.iconst O59 at_128 (r := (0 : Int32)) rfl (q := 129) rfl ?_
      refine Jvm.OwnW.iasA O59 at_129 V_a59 (i := 0) rfl (by decide) (Or.inr N59) (q := 130) rfl ?_
      intro T60 h60 O60 W60
      have V_a59 : Ar Z h60 a59 .int 6 (lf [(.int (0 : Int32)), (.int (0 : Int32)), (.int (0 : Int32)), (.int (0 : Int32)), (.int (0 : Int32)), (.int (0 : Int32))]) := V_a59.setL W60 (by decide) (Nat.le_of_ble_eq_true rfl)
      have V_a53 := V_a53.other W60 ne_a53_a59
      refine Jvm.OwnW.aload O60 at_130 rfl rfl (q := 132) rfl ?_
      refine Jvm.OwnW.iconst O60 at_132 (r := (1 : Int32)) rfl (q := 133) rfl ?_
      refine Jvm.OwnW.iload O60 at_133 rfl (q := 135) rfl ?_
      refine Jvm.OwnW.iasA O60 at_135 V_a59 (i := 1) rfl (by decide) (Or.inr N59) (q := 136) rfl ?_
      intro T61 h61 O61 W61
      have V_a59 : Ar Z h61 a59 .int 6 (lf [(.int (0 : Int32)), (.int (1 : Int32)), (.int (0 : Int32)), (.int (0 : Int32)), (.int (0 : Int32)), (.int (0 : Int32))]) := V_a59.setL W61 (by decide) (Nat.le_of_ble_eq_true rfl)
      have V_a53 := V_a53.other W61 ne_a53_a59
      refine Jvm.OwnW.aload O61 at_136 rfl rfl (q := 138) rfl ?_
      refine Jvm.OwnW.iconst O61 at_138 (r := (2 : Int32)) rfl (q := 139) rfl ?_
      refine Jvm.OwnW.iload O61 at_139 rfl (q := 141) rfl ?_
      refine Jvm.OwnW.iloadN O61 at_141 rfl (q := 142) rfl ?_
      refine Jvm.OwnW.iadd O61 at_142 (r := (2 : Int32)) (by decide) (q := 143) rfl ?_
      refine Jvm.OwnW.iasA O61 at_143 V_a59 (i := 2) rfl (by decide) (Or.inr N59) (q := 144) rfl ?_
      intro T62 h62 O62 W62
      have V_a59 : Ar Z h62 a59 .int 6 (lf [(.int (0 : Int32)), (.int (1 : Int32)), (.int (2 : Int32)), (.int (0 : Int32)), (.int (0 : Int32)), (.int (0 : Int32))]) := V_a59.setL W62 (by decide) (Nat.le_of_ble_eq_true rfl)
      have V_a53 := V_a53.other W62 ne_a53_a59
      refine Jvm.OwnW.aload O62 at_144 rfl rfl (q := 146) rfl ?_
      refine Jvm.OwnW.iconst O62 at_146 (r := (3 : Int32)) rfl (q := 147) rfl ?_
      refine Jvm.OwnW.iload O62 at_147 rfl (q := 149) rfl ?_
      refine Jvm.OwnW.iloadN O62 at_149 rfl (q := 150) rfl ?_
      refine Jvm.OwnW.iadd O62 at_150 (r := (2 : Int32)) (by decide) (q := 151) rfl ?_
      refine Jvm.OwnW.iconst O62 at_151 (r := (1 : Int32)) rfl (q := 152) rfl ?_
      refine Jvm.OwnW.iadd O62 at_152 (r := (3 : Int32)) (by decide) (q := 153) rfl ?_
      refine Jvm.OwnW.iasA O62 at_153 V_a59 (i := 3) rfl (by decide) (Or.inr N59) (q := 154) rfl ?_
      intro T63 h63 O63 W63
      have V_a59 : Ar Z h63 a59 .int 6 (lf [(.int (0 : Int32)), (.int (1 : Int32)), (.int (2 : Int32)), (.int (3 : Int32)), (.int (0 : Int32)), (.int (0 : Int32))]) := V_a59.setL W63 (by decide) (Nat.le_of_ble_eq_true rfl)
      have V_a53 := V_a53.other W63 ne_a53_a59
      refine Jvm.OwnW.aload O63 at_154 rfl rfl (q := 156) rfl ?_
      refine Jvm.OwnW.iconst O63 at_156 (r := (4 : Int32)) rfl (q := 157) rfl ?_
      refine Jvm.OwnW.iload O63 at_157 rfl (q := 159) rfl ?_
      refine Jvm.OwnW.iconst O63 at_159 (r := (2 : Int32)) rfl (q := 160) rfl ?_
      refine Jvm.OwnW.iloadN O63 at_160 rfl (q := 161) rfl ?_
      refine Jvm.OwnW.imul O63 at_161 (r := (2 : Int32)) (by decide) (q := 162) rfl ?_
      refine Jvm.OwnW.iadd O63 at_162 (r := (3 : Int32)) (by decide) (q := 163) rfl ?_
      refine Jvm.OwnW.iconst O63 at_163 (r := (1 : Int32)) rfl (q := 164) rfl ?_
      refine Jvm.OwnW.iadd O63 at_164 (r := (4 : Int32)) (by decide) (q := 165) rfl ?_
      refine Jvm.OwnW.iasA O63 at_165 V_a59 (i := 4) rfl (by decide) (Or.inr N59) (q := 166) rfl ?_
      intro T64 h64 O64 W64
      have V_a59 : Ar Z h64 a59 .int 6 (lf [(.int (0 : Int32)), (.int (1 : Int32)), (.int (2 : Int32)), (.int (3 : Int32)), (.int (4 : Int32)), (.int (0 : Int32))]) := V_a59.setL W64 (by decide) (Nat.le_of_ble_eq_true rfl)
      have V_a53 := V_a53.other W64 ne_a53_a59
      refine Jvm.OwnW.aload O64 at_166 rfl rfl (q := 168) rfl ?_
      refine Jvm.OwnW.iconst O64 at_168 (r := (5 : Int32)) rfl (q := 169) rfl ?_
      refine Jvm.OwnW.iload O64 at_169 rfl (q := 171) rfl ?_
      refine Jvm.OwnW.iconst O64 at_171 (r := (2 : Int32)) rfl (q := 172) rfl ?_
      refine Jvm.OwnW.iloadN O64 at_172 rfl (q := 173) rfl ?_
      refine Jvm.OwnW.imul O64 at_173 (r := (2 : Int32)) (by decide) (q := 174) rfl ?_
      refine Jvm.OwnW.iadd O64 at_174 (r := (3 : Int32)) (by decide) (q := 175) rfl ?_
      refine Jvm.OwnW.iconst O64 at_175 (r := (2 : Int32)) rfl (q := 176) rfl ?_
      refine Jvm.OwnW.iadd O64 at_176 (r := (5 : Int32)) (by decide) (q := 177) rfl ?_
      refine Jvm.OwnW.iasA O64 at_177 V_a59 (i := 5) rfl (by decide) (Or.inr N59) (q := 178) rfl ?_
      intro T65 h65 O65 W65
      have V_a59 : Ar Z h65 a59 .int 6 (lf [(.int (0 : Int32)), (.int (1 : Int32)), (.int (2 : Int32)), (.int (3 : Int32)), (.int (4 : Int32)), (.int (5 : Int32))]) := V_a59.setL W65 (by decide) (Nat.le_of_ble_eq_true rfl)
      have V_a53 := V_a53.other W65 ne_a53_a59
      refine Jvm.OwnW.newO O65 at_178 (hw _ (List.mem_of_getElem? (i := 6) rfl)) (hw _ (List.mem_of_getElem? (i := 7) rfl)) (hw _ (List.mem_of_getElem? (i := 8) rfl)) (c2 := 3) (s2 := 18) rfl rfl (by decide) (by decide) (q := 181) rfl ?_
      intro a66 T66 h66 g66 N66 O66 X66 E_a66 D66
      have ne_a53_a66 : a53 ≠ a66 := Nat.ne_of_lt (Nat.lt_of_lt_of_le V_a53.lt (Nat.le_of_eq g66.symm))
      have ne_a59_a66 : a59 ≠ a66 := Nat.ne_of_lt (Nat.lt_of_lt_of_le V_a59.lt (Nat.le_of_eq g66.symm))
      have V_a53 := V_a53.ext X66
      have V_a59 := V_a59.ext X66
      have F_data_a66 : Fld Z h66 a66 "com/example/lamina/lamina/table/TextVector" "data" "[B" .null := D66 (Or.inl (hw _ (List.mem_of_getElem? (i := 16) rfl))) (ty := (.array .byte)) (by decide)
      have F_offsets_a66 : Fld Z h66 a66 "com/example/lamina/lamina/table/TextVector" "offsets" "[I" .null := D66 (Or.inl (hw _ (List.mem_of_getElem? (i := 18) rfl))) (ty := (.array .int)) (by decide)
      have F_size_a66 : Fld Z h66 a66 "com/example/lamina/lamina/table/TextVector" "size" "I" (.int (0 : Int32)) := D66 (Or.inl (hw _ (List.mem_of_getElem? (i := 25) rfl))) (ty := .int) (by decide)
      refine Jvm.OwnW.dup O66 at_181 rfl (q := 182) rfl ?_
      refine Jvm.OwnW.callI O66 (y := (⟨"com/example/lamina/lamina/table/TextVector", "<init>", "()V"⟩ : MethodName)) (a := a66) (argsL := []) (rest := [(.ref a66)]) at_182 rfl (hw _ (List.mem_of_getElem? (i := 9) rfl)) (hw _ (List.mem_of_getElem? (i := 10) rfl)) (hw _ (List.mem_of_getElem? (i := 8) rfl)) (hw _ (List.mem_of_getElem? (i := 11) rfl)) (by decide) (rm_i l Z a0 hw a66 h66 E_a66 F_data_a66 F_offsets_a66 F_size_a66) rfl pd_1 rfl (hst := rfl) (W := 1) (Nat.le_of_eq rfl) (by decide) (by decide) (c2 := 5) (s2 := 19) rfl rfl (by decide) (by decide) (allS (Or.inr N66) all0) (q := 185) rfl ?_
      intro v67 T67 h67 O67 K67 q67
      obtain ⟨rfl, b_a66, c_a66, F_data_a66, F_offsets_a66, F_size_a66⟩ := q67
      have V_a53 := V_a53.keep K67 (ninS ne_a53_a66 nin0)
      have V_a59 := V_a59.keep K67 (ninS ne_a59_a66 nin0)
      have E_a66 := E_a66.keep K67
      show Go C _ _ _ _ (T67.setTop (mkF C.m 185 #[.val (.int p0), .val (.int p1), .val (.int p2), .val (.int (1 : Int32)), .val (.int (1 : Int32)), .val (.int a0b), .val (.int a1b), .val (.int a2b), .val (.int xb), .val (.int yb), .val (.int zb), .val (.ref a53), .val (.ref a59), .unset] [(.ref a66)]))
      refine Jvm.OwnW.astore O67 at_185 rfl (L' := #[.val (.int p0), .val (.int p1), .val (.int p2), .val (.int (1 : Int32)), .val (.int (1 : Int32)), .val (.int a0b), .val (.int a1b), .val (.int a2b), .val (.int xb), .val (.int yb), .val (.int zb), .val (.ref a53), .val (.ref a59), .val (.ref a66)]) rfl (q := 187) rfl ?_
      refine Jvm.OwnW.aload O67 at_187 rfl rfl (q := 189) rfl ?_
      refine Jvm.OwnW.aload O67 at_189 rfl rfl (q := 191) rfl ?_
      refine Jvm.OwnW.aload O67 at_191 rfl rfl (q := 193) rfl ?_
      refine Jvm.OwnW.iconst O67 at_193 (r := (5 : Int32)) rfl (q := 194) rfl ?_
      refine Jvm.OwnW.callV O67 (y := (⟨"com/example/lamina/lamina/table/TextVector", "reset", "([B[II)V"⟩ : MethodName)) (z := (⟨"com/example/lamina/lamina/table/TextVector", "reset", "([B[II)V"⟩ : MethodName)) (a := a66) (argsL := [(.ref a53), (.ref a59), (.int (5 : Int32))]) (rest := []) at_194 (hw _ (List.mem_of_getElem? (i := 19) rfl)) (hw _ (List.mem_of_getElem? (i := 20) rfl)) (hw _ (List.mem_of_getElem? (i := 22) rfl)) rfl (hw _ (List.mem_of_getElem? (i := 21) rfl)) (hw _ (List.mem_of_getElem? (i := 8) rfl)) (hw _ (List.mem_of_getElem? (i := 23) rfl)) (by decide) (rm_r l Z a0 hw a66 a53 a59 (5 : Int32) _ _ _ h67 E_a66 F_data_a66 F_offsets_a66 F_size_a66) E_a66 rfl pd_2 rfl (hst := rfl) (W := 0) (Nat.le_of_eq rfl) (by decide) (by decide) (c2 := 5) (s2 := 19) rfl rfl (by decide) (by decide) (allS (Or.inr N66) all0) (q := 197) rfl ?_
      intro v68 T68 h68 O68 K68 q68
      obtain ⟨rfl, F_data_a66, F_offsets_a66, F_size_a66⟩ := q68
      have V_a53 := V_a53.keep K68 (ninS ne_a53_a66 nin0)
      have V_a59 := V_a59.keep K68 (ninS ne_a59_a66 nin0)
      have E_a66 := E_a66.keep K68
      show Go C _ _ _ _ (T68.setTop (mkF C.m 197 #[.val (.int p0), .val (.int p1), .val (.int p2), .val (.int (1 : Int32)), .val (.int (1 : Int32)), .val (.int a0b), .val (.int a1b), .val (.int a2b), .val (.int xb), .val (.int yb), .val (.int zb), .val (.ref a53), .val (.ref a59), .val (.ref a66)] []))
      refine Jvm.OwnW.aload O68 at_197 rfl rfl (q := 199) rfl ?_
      refine Jvm.OwnW.iconst O68 at_199 (r := (1 : Int32)) rfl (q := 200) rfl ?_
      refine Jvm.OwnW.callV0 O68 (y := (⟨"com/example/lamina/lamina/table/TextVector", "hashAt", "(I)I"⟩ : MethodName)) (z := (⟨"com/example/lamina/lamina/table/TextVector", "hashAt", "(I)I"⟩ : MethodName)) (a := a66) (argsL := [(.int (1 : Int32))]) (rest := []) at_200 (hw _ (List.mem_of_getElem? (i := 26) rfl)) (hw _ (List.mem_of_getElem? (i := 27) rfl)) (hw _ (List.mem_of_getElem? (i := 29) rfl)) rfl (hw _ (List.mem_of_getElem? (i := 28) rfl)) (hw _ (List.mem_of_getElem? (i := 8) rfl)) (hw _ (List.mem_of_getElem? (i := 30) rfl)) (by decide) (rm_h l Z a0 hw a66 (1 : Int32) a53 a59 9 6 1 1 2 (fun j => ([xb, a0b, yb, a0b, zb, (0 : Int32), (0 : Int32), (0 : Int32), (0 : Int32)] : List Int32).getD j 0) (fun j => ([(0 : Int32), (1 : Int32), (2 : Int32), (3 : Int32), (4 : Int32), (5 : Int32)] : List Int32).getD j 0) h68 E_a66 F_data_a66 F_offsets_a66 (V_a53.congr (lf_int [xb, a0b, yb, a0b, zb, (0 : Int32), (0 : Int32), (0 : Int32), (0 : Int32)])) (V_a59.congr (lf_int [(0 : Int32), (1 : Int32), (2 : Int32), (3 : Int32), (4 : Int32), (5 : Int32)])) rfl (by decide) rfl rfl (by decide) (by decide)) E_a66 rfl pd_3 rfl (hst := rfl) (W := 0) (Nat.le_of_eq rfl) (by decide) (by decide) (c2 := 5) (s2 := 19) rfl rfl (by decide) (by decide) rfl rfl (q := 203) rfl ?_
      intro v69 T69 O69 q69
      obtain rfl := q69
      show Go C _ _ _ _ (T69.setTop (mkF C.m 203 #[.val (.int p0), .val (.int p1), .val (.int p2), .val (.int (1 : Int32)), .val (.int (1 : Int32)), .val (.int a0b), .val (.int a1b), .val (.int a2b), .val (.int xb), .val (.int yb), .val (.int zb), .val (.ref a53), .val (.ref a59), .val (.ref a66)] [(.int (own_hash (fun j => ([xb, a0b, yb, a0b, zb, (0 : Int32), (0 : Int32), (0 : Int32), (0 : Int32)] : List Int32).getD j 0) 1 (2 - 1) 1))]))
      refine Jvm.OwnW.aload O69 at_203 rfl rfl (q := 205) rfl ?_
      refine Jvm.OwnW.iconst O69 at_205 (r := (3 : Int32)) rfl (q := 206) rfl ?_
      refine Jvm.OwnW.callV0 O69 (y := (⟨"com/example/lamina/lamina/table/TextVector", "hashAt", "(I)I"⟩ : MethodName)) (z := (⟨"com/example/lamina/lamina/table/TextVector", "hashAt", "(I)I"⟩ : MethodName)) (a := a66) (argsL := [(.int (3 : Int32))]) (rest := [(.int (own_hash (fun j => ([xb, a0b, yb, a0b, zb, (0 : Int32), (0 : Int32), (0 : Int32), (0 : Int32)] : List Int32).getD j 0) 1 (2 - 1) 1))]) at_206 (hw _ (List.mem_of_getElem? (i := 26) rfl)) (hw _ (List.mem_of_getElem? (i := 27) rfl)) (hw _ (List.mem_of_getElem? (i := 29) rfl)) rfl (hw _ (List.mem_of_getElem? (i := 28) rfl)) (hw _ (List.mem_of_getElem? (i := 8) rfl)) (hw _ (List.mem_of_getElem? (i := 30) rfl)) (by decide) (rm_h l Z a0 hw a66 (3 : Int32) a53 a59 9 6 3 3 4 (fun j => ([xb, a0b, yb, a0b, zb, (0 : Int32), (0 : Int32), (0 : Int32), (0 : Int32)] : List Int32).getD j 0) (fun j => ([(0 : Int32), (1 : Int32), (2 : Int32), (3 : Int32), (4 : Int32), (5 : Int32)] : List Int32).getD j 0) h68 E_a66 F_data_a66 F_offsets_a66 (V_a53.congr (lf_int [xb, a0b, yb, a0b, zb, (0 : Int32), (0 : Int32), (0 : Int32), (0 : Int32)])) (V_a59.congr (lf_int [(0 : Int32), (1 : Int32), (2 : Int32), (3 : Int32), (4 : Int32), (5 : Int32)])) rfl (by decide) rfl rfl (by decide) (by decide)) E_a66 rfl pd_3 rfl (hst := rfl) (W := 1) (Nat.le_of_eq rfl) (by decide) (by decide) (c2 := 5) (s2 := 19) rfl rfl (by decide) (by decide) rfl rfl (q := 209) rfl ?_
      intro v70 T70 O70 q70
      obtain rfl := q70
      show Go C _ _ _ _ (T70.setTop (mkF C.m 209 #[.val (.int p0), .val (.int p1), .val (.int p2), .val (.int (1 : Int32)), .val (.int (1 : Int32)), .val (.int a0b), .val (.int a1b), .val (.int a2b), .val (.int xb), .val (.int yb), .val (.int zb), .val (.ref a53), .val (.ref a59), .val (.ref a66)] [(.int (own_hash (fun j => ([xb, a0b, yb, a0b, zb, (0 : Int32), (0 : Int32), (0 : Int32), (0 : Int32)] : List Int32).getD j 0) 3 (4 - 3) 1)), (.int (own_hash (fun j => ([xb, a0b, yb, a0b, zb, (0 : Int32), (0 : Int32), (0 : Int32), (0 : Int32)] : List Int32).getD j 0) 1 (2 - 1) 1))]))
      refine Jvm.OwnW.icmpNo O70 at_209 (teq (show (own_hash (fun j => ([xb, a0b, yb, a0b, zb, (0 : Int32), (0 : Int32), (0 : Int32), (0 : Int32)] : List Int32).getD j 0) 1 (2 - 1) 1) = (own_hash (fun j => ([xb, a0b, yb, a0b, zb, (0 : Int32), (0 : Int32), (0 : Int32), (0 : Int32)] : List Int32).getD j 0) 3 (4 - 3) 1) from rfl)).2 (q := 212) rfl ?_
      refine Jvm.OwnW.iconst O70 at_212 (r := (1 : Int32)) rfl (q := 213) rfl ?_
      refine Jvm.OwnW.goto O70 at_213 (by decide) (q := 217) rfl ?_
      exact Jvm.OwnW.retB O70 at_217 rfl (Or.inr rfl) (by decide) (by decide) rfl
  · skip
    rcases hp2 with rfl | rfl
    · skip
      refine Jvm.OwnW.bipush O at_47 (r := (9 : Int32)) rfl (q := 49) rfl ?_
      refine Jvm.OwnW.newA' O at_49 (ty := .byte) rfl (hw _ (List.mem_of_getElem? (i := 0) rfl)) (N := 9) rfl (cap := 9) (by decide) (by decide) (c2 := 1) (s2 := 9) rfl rfl (by decide) (by decide) (q := 51) rfl ?_
      intro a71 T71 h71 g71 N71 O71 X71 V_a71
      have V_a71 : Ar Z h71 a71 .byte 9 (lf [(.int (0 : Int32)), (.int (0 : Int32)), (.int (0 : Int32)), (.int (0 : Int32)), (.int (0 : Int32)), (.int (0 : Int32)), (.int (0 : Int32)), (.int (0 : Int32)), (.int (0 : Int32))]) := V_a71.congr (lf_rep 9 _)
      refine Jvm.OwnW.astore O71 at_51 rfl (L' := #[.val (.int p0), .val (.int p1), .val (.int p2), .val (.int (2 : Int32)), .val (.int (0 : Int32)), .val (.int a0b), .val (.int a1b), .val (.int a2b), .val (.int xb), .val (.int yb), .val (.int zb), .val (.ref a71), .unset, .unset]) rfl (q := 53) rfl ?_
      refine Jvm.OwnW.iload O71 at_53 rfl (q := 55) rfl ?_
      refine Jvm.OwnW.iconst O71 at_55 (r := (1 : Int32)) rfl (q := 56) rfl ?_
      refine Jvm.OwnW.icmpYes O71 at_56 (feq (show ¬ ((0 : Int32) = (1 : Int32)) from (by decide))).2 (by decide) (q := 65) rfl ?_
      refine Jvm.OwnW.aload O71 at_65 rfl rfl (q := 67) rfl ?_
      refine Jvm.OwnW.iload O71 at_67 rfl (q := 69) rfl ?_
      refine Jvm.OwnW.iloadN O71 at_69 rfl (q := 70) rfl ?_
      refine Jvm.OwnW.iload O71 at_70 rfl (q := 72) rfl ?_
      refine Jvm.OwnW.iload O71 at_72 rfl (q := 74) rfl ?_
      refine Jvm.OwnW.iload O71 at_74 rfl (q := 76) rfl ?_
      refine Jvm.OwnW.callS O71 (y := (⟨"com/example/lamina/lamina/table/TextVectorHashAtPinLaw", "put", "([BIIBBB)V"⟩ : MethodName)) (argsL := [(.ref a71), (.int (0 : Int32)), (.int (2 : Int32)), (.int a0b), (.int a1b), (.int a2b)]) (rest := []) at_76 (hw _ (List.mem_of_getElem? (i := 1) rfl)) (hw _ (List.mem_of_getElem? (i := 2) rfl)) (hw _ (List.mem_of_getElem? (i := 3) rfl)) (hw _ (List.mem_of_getElem? (i := 4) rfl)) (by decide) (rm_p2 l Z a0 hw a71 (0 : Int32) a0b a1b a2b 0 _ h71 V_a71 rfl rfl (by decide) ba0b ba1b ba2b) rfl pd_0 rfl (hst := rfl) (W := 0) (Nat.le_of_eq rfl) (by decide) (by decide) (c2 := 1) (s2 := 9) rfl rfl (by decide) (by decide) (allS (Or.inr N71) all0) (q := 79) rfl ?_
      intro v72 T72 h72 O72 K72 q72
      obtain ⟨rfl, V_a71⟩ := q72
      have V_a71 : Ar Z h72 a71 .byte 9 (lf [(.int a0b), (.int a1b), (.int (0 : Int32)), (.int (0 : Int32)), (.int (0 : Int32)), (.int (0 : Int32)), (.int (0 : Int32)), (.int (0 : Int32)), (.int (0 : Int32))]) := V_a71
      show Go C _ _ _ _ (T72.setTop (mkF C.m 79 #[.val (.int p0), .val (.int p1), .val (.int p2), .val (.int (2 : Int32)), .val (.int (0 : Int32)), .val (.int a0b), .val (.int a1b), .val (.int a2b), .val (.int xb), .val (.int yb), .val (.int zb), .val (.ref a71), .unset, .unset] []))
      refine Jvm.OwnW.aload O72 at_79 rfl rfl (q := 81) rfl ?_
      refine Jvm.OwnW.iload O72 at_81 rfl (q := 83) rfl ?_
      refine Jvm.OwnW.iloadN O72 at_83 rfl (q := 84) rfl ?_
      refine Jvm.OwnW.iadd O72 at_84 (r := (2 : Int32)) (by decide) (q := 85) rfl ?_
      refine Jvm.OwnW.iload O72 at_85 rfl (q := 87) rfl ?_
      refine Jvm.OwnW.basA O72 at_87 V_a71 (i := 2) rfl (by decide) (Or.inr N71) (y := yb) byb (q := 88) rfl ?_
      intro T73 h73 O73 W73
      have V_a71 : Ar Z h73 a71 .byte 9 (lf [(.int a0b), (.int a1b), (.int yb), (.int (0 : Int32)), (.int (0 : Int32)), (.int (0 : Int32)), (.int (0 : Int32)), (.int (0 : Int32)), (.int (0 : Int32))]) := V_a71.setL W73 (by decide) (Nat.le_of_ble_eq_true rfl)
      refine Jvm.OwnW.aload O73 at_88 rfl rfl (q := 90) rfl ?_
      refine Jvm.OwnW.iload O73 at_90 rfl (q := 92) rfl ?_
      refine Jvm.OwnW.iloadN O73 at_92 rfl (q := 93) rfl ?_
      refine Jvm.OwnW.iadd O73 at_93 (r := (2 : Int32)) (by decide) (q := 94) rfl ?_
      refine Jvm.OwnW.iconst O73 at_94 (r := (1 : Int32)) rfl (q := 95) rfl ?_
      refine Jvm.OwnW.iadd O73 at_95 (r := (3 : Int32)) (by decide) (q := 96) rfl ?_
      refine Jvm.OwnW.iloadN O73 at_96 rfl (q := 97) rfl ?_
      refine Jvm.OwnW.iload O73 at_97 rfl (q := 99) rfl ?_
      refine Jvm.OwnW.iload O73 at_99 rfl (q := 101) rfl ?_
      refine Jvm.OwnW.iload O73 at_101 rfl (q := 103) rfl ?_
      refine Jvm.OwnW.callS O73 (y := (⟨"com/example/lamina/lamina/table/TextVectorHashAtPinLaw", "put", "([BIIBBB)V"⟩ : MethodName)) (argsL := [(.ref a71), (.int (3 : Int32)), (.int (2 : Int32)), (.int a0b), (.int a1b), (.int a2b)]) (rest := []) at_103 (hw _ (List.mem_of_getElem? (i := 1) rfl)) (hw _ (List.mem_of_getElem? (i := 2) rfl)) (hw _ (List.mem_of_getElem? (i := 3) rfl)) (hw _ (List.mem_of_getElem? (i := 4) rfl)) (by decide) (rm_p2 l Z a0 hw a71 (3 : Int32) a0b a1b a2b 3 _ h73 V_a71 rfl rfl (by decide) ba0b ba1b ba2b) rfl pd_0 rfl (hst := rfl) (W := 0) (Nat.le_of_eq rfl) (by decide) (by decide) (c2 := 1) (s2 := 9) rfl rfl (by decide) (by decide) (allS (Or.inr N71) all0) (q := 106) rfl ?_
      intro v74 T74 h74 O74 K74 q74
      obtain ⟨rfl, V_a71⟩ := q74
      have V_a71 : Ar Z h74 a71 .byte 9 (lf [(.int a0b), (.int a1b), (.int yb), (.int a0b), (.int a1b), (.int (0 : Int32)), (.int (0 : Int32)), (.int (0 : Int32)), (.int (0 : Int32))]) := V_a71
      show Go C _ _ _ _ (T74.setTop (mkF C.m 106 #[.val (.int p0), .val (.int p1), .val (.int p2), .val (.int (2 : Int32)), .val (.int (0 : Int32)), .val (.int a0b), .val (.int a1b), .val (.int a2b), .val (.int xb), .val (.int yb), .val (.int zb), .val (.ref a71), .unset, .unset] []))
      refine Jvm.OwnW.aload O74 at_106 rfl rfl (q := 108) rfl ?_
      refine Jvm.OwnW.iload O74 at_108 rfl (q := 110) rfl ?_
      refine Jvm.OwnW.iconst O74 at_110 (r := (2 : Int32)) rfl (q := 111) rfl ?_
      refine Jvm.OwnW.iloadN O74 at_111 rfl (q := 112) rfl ?_
      refine Jvm.OwnW.imul O74 at_112 (r := (4 : Int32)) (by decide) (q := 113) rfl ?_
      refine Jvm.OwnW.iadd O74 at_113 (r := (4 : Int32)) (by decide) (q := 114) rfl ?_
      refine Jvm.OwnW.iconst O74 at_114 (r := (1 : Int32)) rfl (q := 115) rfl ?_
      refine Jvm.OwnW.iadd O74 at_115 (r := (5 : Int32)) (by decide) (q := 116) rfl ?_
      refine Jvm.OwnW.iload O74 at_116 rfl (q := 118) rfl ?_
      refine Jvm.OwnW.basA O74 at_118 V_a71 (i := 5) rfl (by decide) (Or.inr N71) (y := zb) bzb (q := 119) rfl ?_
      intro T75 h75 O75 W75
      have V_a71 : Ar Z h75 a71 .byte 9 (lf [(.int a0b), (.int a1b), (.int yb), (.int a0b), (.int a1b), (.int zb), (.int (0 : Int32)), (.int (0 : Int32)), (.int (0 : Int32))]) := V_a71.setL W75 (by decide) (Nat.le_of_ble_eq_true rfl)
      refine Jvm.OwnW.bipush O75 at_119 (r := (6 : Int32)) rfl (q := 121) rfl ?_
      refine Jvm.OwnW.newA' O75 at_121 (ty := .int) rfl (hw _ (List.mem_of_getElem? (i := 5) rfl)) (N := 6) rfl (cap := 6) (by decide) (by decide) (c2 := 2) (s2 := 15) rfl rfl (by decide) (by decide) (q := 123) rfl ?_
      intro a76 T76 h76 g76 N76 O76 X76 V_a76
      have ne_a71_a76 : a71 ≠ a76 := Nat.ne_of_lt (Nat.lt_of_lt_of_le V_a71.lt (Nat.le_of_eq g76.symm))
      have V_a71 := V_a71.ext X76
      have V_a76 : Ar Z h76 a76 .int 6 (lf [(.int (0 : Int32)), (.int (0 : Int32)), (.int (0 : Int32)), (.int (0 : Int32)), (.int (0 : Int32)), (.int (0 : Int32))]) := V_a76.congr (lf_rep 6 _)
      refine Jvm.OwnW.astore O76 at_123 rfl (L' := #[.val (.int p0), .val (.int p1), .val (.int p2), .val (.int (2 : Int32)), .val (.int (0 : Int32)), .val (.int a0b), .val (.int a1b), .val (.int a2b), .val (.int xb), .val (.int yb), .val (.int zb), .val (.ref a71), .val (.ref a76), .unset]) rfl (q := 125) rfl ?_
      refine Jvm.OwnW.aload O76 at_125 rfl rfl (q := 127) rfl ?_
      refine Jvm.OwnW.iconst O76 at_127 (r := (0 : Int32)) rfl (q := 128) rfl ?_
      refine Jvm.OwnW.iconst O76 at_128 (r := (0 : Int32)) rfl (q := 129) rfl ?_
      refine Jvm.OwnW.iasA O76 at_129 V_a76 (i := 0) rfl (by decide) (Or.inr N76) (q := 130) rfl ?_
      intro T77 h77 O77 W77
      have V_a76 : Ar Z h77 a76 .int 6 (lf [(.int (0 : Int32)), (.int (0 : Int32)), (.int (0 : Int32)), (.int (0 : Int32)), (.int (0 : Int32)), (.int (0 : Int32))]) := V_a76.setL W77 (by decide) (Nat.le_of_ble_eq_true rfl)
      have V_a71 := V_a71.other W77 ne_a71_a76
      refine Jvm.OwnW.aload O77 at_130 rfl rfl (q := 132) rfl ?_
      refine Jvm.OwnW.iconst O77 at_132 (r := (1 : Int32)) rfl (q := 133) rfl ?_
      refine Jvm.OwnW.iload O77 at_133 rfl (q := 135) rfl ?_
      refine Jvm.OwnW.iasA O77 at_135 V_a76 (i := 1) rfl (by decide) (Or.inr N76) (q := 136) rfl ?_
      intro T78 h78 O78 W78
      have V_a76 : Ar Z h78 a76 .int 6 (lf [(.int (0 : Int32)), (.int (0 : Int32)), (.int (0 : Int32)), (.int (0 : Int32)), (.int (0 : Int32)), (.int (0 : Int32))]) := V_a76.setL W78 (by decide) (Nat.le_of_ble_eq_true rfl)
      have V_a71 := V_a71.other W78 ne_a71_a76
      refine Jvm.OwnW.aload O78 at_136 rfl rfl (q := 138) rfl ?_
      refine Jvm.OwnW.iconst O78 at_138 (r := (2 : Int32)) rfl (q := 139) rfl ?_
      refine Jvm.OwnW.iload O78 at_139 rfl (q := 141) rfl ?_
      refine Jvm.OwnW.iloadN O78 at_141 rfl (q := 142) rfl ?_
      refine Jvm.OwnW.iadd O78 at_142 (r := (2 : Int32)) (by decide) (q := 143) rfl ?_
      refine Jvm.OwnW.iasA O78 at_143 V_a76 (i := 2) rfl (by decide) (Or.inr N76) (q := 144) rfl ?_
      intro T79 h79 O79 W79
      have V_a76 : Ar Z h79 a76 .int 6 (lf [(.int (0 : Int32)), (.int (0 : Int32)), (.int (2 : Int32)), (.int (0 : Int32)), (.int (0 : Int32)), (.int (0 : Int32))]) := V_a76.setL W79 (by decide) (Nat.le_of_ble_eq_true rfl)
      have V_a71 := V_a71.other W79 ne_a71_a76
      refine Jvm.OwnW.aload O79 at_144 rfl rfl (q := 146) rfl ?_
      refine Jvm.OwnW.iconst O79 at_146 (r := (3 : Int32)) rfl (q := 147) rfl ?_
      refine Jvm.OwnW.iload O79 at_147 rfl (q := 149) rfl ?_
      refine Jvm.OwnW.iloadN O79 at_149 rfl (q := 150) rfl ?_
      refine Jvm.OwnW.iadd O79 at_150 (r := (2 : Int32)) (by decide) (q := 151) rfl ?_
      refine Jvm.OwnW.iconst O79 at_151 (r := (1 : Int32)) rfl (q := 152) rfl ?_
      refine Jvm.OwnW.iadd O79 at_152 (r := (3 : Int32)) (by decide) (q := 153) rfl ?_
      refine Jvm.OwnW.iasA O79 at_153 V_a76 (i := 3) rfl (by decide) (Or.inr N76) (q := 154) rfl ?_
      intro T80 h80 O80 W80
      have V_a76 : Ar Z h80 a76 .int 6 (lf [(.int (0 : Int32)), (.int (0 : Int32)), (.int (2 : Int32)), (.int (3 : Int32)), (.int (0 : Int32)), (.int (0 : Int32))]) := V_a76.setL W80 (by decide) (Nat.le_of_ble_eq_true rfl)
      have V_a71 := V_a71.other W80 ne_a71_a76
      refine Jvm.OwnW.aload O80 at_154 rfl rfl (q := 156) rfl ?_
      refine Jvm.OwnW.iconst O80 at_156 (r := (4 : Int32)) rfl (q := 157) rfl ?_
      refine Jvm.OwnW.iload O80 at_157 rfl (q := 159) rfl ?_
      refine Jvm.OwnW.iconst O80 at_159 (r := (2 : Int32)) rfl (q := 160) rfl ?_
      refine Jvm.OwnW.iloadN O80 at_160 rfl (q := 161) rfl ?_
      refine Jvm.OwnW.imul O80 at_161 (r := (4 : Int32)) (by decide) (q := 162) rfl ?_
      refine Jvm.OwnW.iadd O80 at_162 (r := (4 : Int32)) (by decide) (q := 163) rfl ?_
      refine Jvm.OwnW.iconst O80 at_163 (r := (1 : Int32)) rfl (q := 164) rfl ?_
      refine Jvm.OwnW.iadd O80 at_164 (r := (5 : Int32)) (by decide) (q := 165) rfl ?_
      refine Jvm.OwnW.iasA O80 at_165 V_a76 (i := 4) rfl (by decide) (Or.inr N76) (q := 166) rfl ?_
      intro T81 h81 O81 W81
      have V_a76 : Ar Z h81 a76 .int 6 (lf [(.int (0 : Int32)), (.int (0 : Int32)), (.int (2 : Int32)), (.int (3 : Int32)), (.int (5 : Int32)), (.int (0 : Int32))]) := V_a76.setL W81 (by decide) (Nat.le_of_ble_eq_true rfl)
      have V_a71 := V_a71.other W81 ne_a71_a76
      refine Jvm.OwnW.aload O81 at_166 rfl rfl (q := 168) rfl ?_
      refine Jvm.OwnW.iconst O81 at_168 (r := (5 : Int32)) rfl (q := 169) rfl ?_
      refine Jvm.OwnW.iload O81 at_169 rfl (q := 171) rfl ?_
      refine Jvm.OwnW.iconst O81 at_171 (r := (2 : Int32)) rfl (q := 172) rfl ?_
      refine Jvm.OwnW.iloadN O81 at_172 rfl (q := 173) rfl ?_
      refine Jvm.OwnW.imul O81 at_173 (r := (4 : Int32)) (by decide) (q := 174) rfl ?_
      refine Jvm.OwnW.iadd O81 at_174 (r := (4 : Int32)) (by decide) (q := 175) rfl ?_
      refine Jvm.OwnW.iconst O81 at_175 (r := (2 : Int32)) rfl (q := 176) rfl ?_
      refine Jvm.OwnW.iadd O81 at_176 (r := (6 : Int32)) (by decide) (q := 177) rfl ?_
      refine Jvm.OwnW.iasA O81 at_177 V_a76 (i := 5) rfl (by decide) (Or.inr N76) (q := 178) rfl ?_
      intro T82 h82 O82 W82
      have V_a76 : Ar Z h82 a76 .int 6 (lf [(.int (0 : Int32)), (.int (0 : Int32)), (.int (2 : Int32)), (.int (3 : Int32)), (.int (5 : Int32)), (.int (6 : Int32))]) := V_a76.setL W82 (by decide) (Nat.le_of_ble_eq_true rfl)
      have V_a71 := V_a71.other W82 ne_a71_a76
      refine Jvm.OwnW.newO O82 at_178 (hw _ (List.mem_of_getElem? (i := 6) rfl)) (hw _ (List.mem_of_getElem? (i := 7) rfl)) (hw _ (List.mem_of_getElem? (i := 8) rfl)) (c2 := 3) (s2 := 18) rfl rfl (by decide) (by decide) (q := 181) rfl ?_
      intro a83 T83 h83 g83 N83 O83 X83 E_a83 D83
      have ne_a71_a83 : a71 ≠ a83 := Nat.ne_of_lt (Nat.lt_of_lt_of_le V_a71.lt (Nat.le_of_eq g83.symm))
      have ne_a76_a83 : a76 ≠ a83 := Nat.ne_of_lt (Nat.lt_of_lt_of_le V_a76.lt (Nat.le_of_eq g83.symm))
      have V_a71 := V_a71.ext X83
      have V_a76 := V_a76.ext X83
      have F_data_a83 : Fld Z h83 a83 "com/example/lamina/lamina/table/TextVector" "data" "[B" .null := D83 (Or.inl (hw _ (List.mem_of_getElem? (i := 16) rfl))) (ty := (.array .byte)) (by decide)
      have F_offsets_a83 : Fld Z h83 a83 "com/example/lamina/lamina/table/TextVector" "offsets" "[I" .null := D83 (Or.inl (hw _ (List.mem_of_getElem? (i := 18) rfl))) (ty := (.array .int)) (by decide)
      have F_size_a83 : Fld Z h83 a83 "com/example/lamina/lamina/table/TextVector" "size" "I" (.int (0 : Int32)) := D83 (Or.inl (hw _ (List.mem_of_getElem? (i := 25) rfl))) (ty := .int) (by decide)
      refine Jvm.OwnW.dup O83 at_181 rfl (q := 182) rfl ?_
      refine Jvm.OwnW.callI O83 (y := (⟨"com/example/lamina/lamina/table/TextVector", "<init>", "()V"⟩ : MethodName)) (a := a83) (argsL := []) (rest := [(.ref a83)]) at_182 rfl (hw _ (List.mem_of_getElem? (i := 9) rfl)) (hw _ (List.mem_of_getElem? (i := 10) rfl)) (hw _ (List.mem_of_getElem? (i := 8) rfl)) (hw _ (List.mem_of_getElem? (i := 11) rfl)) (by decide) (rm_i l Z a0 hw a83 h83 E_a83 F_data_a83 F_offsets_a83 F_size_a83) rfl pd_1 rfl (hst := rfl) (W := 1) (Nat.le_of_eq rfl) (by decide) (by decide) (c2 := 5) (s2 := 19) rfl rfl (by decide) (by decide) (allS (Or.inr N83) all0) (q := 185) rfl ?_
      intro v84 T84 h84 O84 K84 q84
      obtain ⟨rfl, b_a83, c_a83, F_data_a83, F_offsets_a83, F_size_a83⟩ := q84
      have V_a71 := V_a71.keep K84 (ninS ne_a71_a83 nin0)
      have V_a76 := V_a76.keep K84 (ninS ne_a76_a83 nin0)
      have E_a83 := E_a83.keep K84
      show Go C _ _ _ _ (T84.setTop (mkF C.m 185 #[.val (.int p0), .val (.int p1), .val (.int p2), .val (.int (2 : Int32)), .val (.int (0 : Int32)), .val (.int a0b), .val (.int a1b), .val (.int a2b), .val (.int xb), .val (.int yb), .val (.int zb), .val (.ref a71), .val (.ref a76), .unset] [(.ref a83)]))
      refine Jvm.OwnW.astore O84 at_185 rfl (L' := #[.val (.int p0), .val (.int p1), .val (.int p2), .val (.int (2 : Int32)), .val (.int (0 : Int32)), .val (.int a0b), .val (.int a1b), .val (.int a2b), .val (.int xb), .val (.int yb), .val (.int zb), .val (.ref a71), .val (.ref a76), .val (.ref a83)]) rfl (q := 187) rfl ?_
      refine Jvm.OwnW.aload O84 at_187 rfl rfl (q := 189) rfl ?_
      refine Jvm.OwnW.aload O84 at_189 rfl rfl (q := 191) rfl ?_
      refine Jvm.OwnW.aload O84 at_191 rfl rfl (q := 193) rfl ?_
      refine Jvm.OwnW.iconst O84 at_193 (r := (5 : Int32)) rfl (q := 194) rfl ?_
      refine Jvm.OwnW.callV O84 (y := (⟨"com/example/lamina/lamina/table/TextVector", "reset", "([B[II)V"⟩ : MethodName)) (z := (⟨"com/example/lamina/lamina/table/TextVector", "reset", "([B[II)V"⟩ : MethodName)) (a := a83) (argsL := [(.ref a71), (.ref a76), (.int (5 : Int32))]) (rest := []) at_194 (hw _ (List.mem_of_getElem? (i := 19) rfl)) (hw _ (List.mem_of_getElem? (i := 20) rfl)) (hw _ (List.mem_of_getElem? (i := 22) rfl)) rfl (hw _ (List.mem_of_getElem? (i := 21) rfl)) (hw _ (List.mem_of_getElem? (i := 8) rfl)) (hw _ (List.mem_of_getElem? (i := 23) rfl)) (by decide) (rm_r l Z a0 hw a83 a71 a76 (5 : Int32) _ _ _ h84 E_a83 F_data_a83 F_offsets_a83 F_size_a83) E_a83 rfl pd_2 rfl (hst := rfl) (W := 0) (Nat.le_of_eq rfl) (by decide) (by decide) (c2 := 5) (s2 := 19) rfl rfl (by decide) (by decide) (allS (Or.inr N83) all0) (q := 197) rfl ?_
      intro v85 T85 h85 O85 K85 q85
      obtain ⟨rfl, F_data_a83, F_offsets_a83, F_size_a83⟩ := q85
      have V_a71 := V_a71.keep K85 (ninS ne_a71_a83 nin0)
      have V_a76 := V_a76.keep K85 (ninS ne_a76_a83 nin0)
      have E_a83 := E_a83.keep K85
      show Go C _ _ _ _ (T85.setTop (mkF C.m 197 #[.val (.int p0), .val (.int p1), .val (.int p2), .val (.int (2 : Int32)), .val (.int (0 : Int32)), .val (.int a0b), .val (.int a1b), .val (.int a2b), .val (.int xb), .val (.int yb), .val (.int zb), .val (.ref a71), .val (.ref a76), .val (.ref a83)] []))
      refine Jvm.OwnW.aload O85 at_197 rfl rfl (q := 199) rfl ?_
      refine Jvm.OwnW.iconst O85 at_199 (r := (1 : Int32)) rfl (q := 200) rfl ?_
      refine Jvm.OwnW.callV0 O85 (y := (⟨"com/example/lamina/lamina/table/TextVector", "hashAt", "(I)I"⟩ : MethodName)) (z := (⟨"com/example/lamina/lamina/table/TextVector", "hashAt", "(I)I"⟩ : MethodName)) (a := a83) (argsL := [(.int (1 : Int32))]) (rest := []) at_200 (hw _ (List.mem_of_getElem? (i := 26) rfl)) (hw _ (List.mem_of_getElem? (i := 27) rfl)) (hw _ (List.mem_of_getElem? (i := 29) rfl)) rfl (hw _ (List.mem_of_getElem? (i := 28) rfl)) (hw _ (List.mem_of_getElem? (i := 8) rfl)) (hw _ (List.mem_of_getElem? (i := 30) rfl)) (by decide) (rm_h l Z a0 hw a83 (1 : Int32) a71 a76 9 6 1 0 2 (fun j => ([a0b, a1b, yb, a0b, a1b, zb, (0 : Int32), (0 : Int32), (0 : Int32)] : List Int32).getD j 0) (fun j => ([(0 : Int32), (0 : Int32), (2 : Int32), (3 : Int32), (5 : Int32), (6 : Int32)] : List Int32).getD j 0) h85 E_a83 F_data_a83 F_offsets_a83 (V_a71.congr (lf_int [a0b, a1b, yb, a0b, a1b, zb, (0 : Int32), (0 : Int32), (0 : Int32)])) (V_a76.congr (lf_int [(0 : Int32), (0 : Int32), (2 : Int32), (3 : Int32), (5 : Int32), (6 : Int32)])) rfl (by decide) rfl rfl (by decide) (by decide)) E_a83 rfl pd_3 rfl (hst := rfl) (W := 0) (Nat.le_of_eq rfl) (by decide) (by decide) (c2 := 5) (s2 := 19) rfl rfl (by decide) (by decide) rfl rfl (q := 203) rfl ?_
      intro v86 T86 O86 q86
      obtain rfl := q86
      show Go C _ _ _ _ (T86.setTop (mkF C.m 203 #[.val (.int p0), .val (.int p1), .val (.int p2), .val (.int (2 : Int32)), .val (.int (0 : Int32)), .val (.int a0b), .val (.int a1b), .val (.int a2b), .val (.int xb), .val (.int yb), .val (.int zb), .val (.ref a71), .val (.ref a76), .val (.ref a83)] [(.int (own_hash (fun j => ([a0b, a1b, yb, a0b, a1b, zb, (0 : Int32), (0 : Int32), (0 : Int32)] : List Int32).getD j 0) 0 (2 - 0) 1))]))
      refine Jvm.OwnW.aload O86 at_203 rfl rfl (q := 205) rfl ?_
      refine Jvm.OwnW.iconst O86 at_205 (r := (3 : Int32)) rfl (q := 206) rfl ?_
      refine Jvm.OwnW.callV0 O86 (y := (⟨"com/example/lamina/lamina/table/TextVector", "hashAt", "(I)I"⟩ : MethodName)) (z := (⟨"com/example/lamina/lamina/table/TextVector", "hashAt", "(I)I"⟩ : MethodName)) (a := a83) (argsL := [(.int (3 : Int32))]) (rest := [(.int (own_hash (fun j => ([a0b, a1b, yb, a0b, a1b, zb, (0 : Int32), (0 : Int32), (0 : Int32)] : List Int32).getD j 0) 0 (2 - 0) 1))]) at_206 (hw _ (List.mem_of_getElem? (i := 26) rfl)) (hw _ (List.mem_of_getElem? (i := 27) rfl)) (hw _ (List.mem_of_getElem? (i := 29) rfl)) rfl (hw _ (List.mem_of_getElem? (i := 28) rfl)) (hw _ (List.mem_of_getElem? (i := 8) rfl)) (hw _ (List.mem_of_getElem? (i := 30) rfl)) (by decide) (rm_h l Z a0 hw a83 (3 : Int32) a71 a76 9 6 3 3 5 (fun j => ([a0b, a1b, yb, a0b, a1b, zb, (0 : Int32), (0 : Int32), (0 : Int32)] : List Int32).getD j 0) (fun j => ([(0 : Int32), (0 : Int32), (2 : Int32), (3 : Int32), (5 : Int32), (6 : Int32)] : List Int32).getD j 0) h85 E_a83 F_data_a83 F_offsets_a83 (V_a71.congr (lf_int [a0b, a1b, yb, a0b, a1b, zb, (0 : Int32), (0 : Int32), (0 : Int32)])) (V_a76.congr (lf_int [(0 : Int32), (0 : Int32), (2 : Int32), (3 : Int32), (5 : Int32), (6 : Int32)])) rfl (by decide) rfl rfl (by decide) (by decide)) E_a83 rfl pd_3 rfl (hst := rfl) (W := 1) (Nat.le_of_eq rfl) (by decide) (by decide) (c2 := 5) (s2 := 19) rfl rfl (by decide) (by decide) rfl rfl (q := 209) rfl ?_
      intro v87 T87 O87 q87
      obtain rfl := q87
      show Go C _ _ _ _ (T87.setTop (mkF C.m 209 #[.val (.int p0), .val (.int p1), .val (.int p2), .val (.int (2 : Int32)), .val (.int (0 : Int32)), .val (.int a0b), .val (.int a1b), .val (.int a2b), .val (.int xb), .val (.int yb), .val (.int zb), .val (.ref a71), .val (.ref a76), .val (.ref a83)] [(.int (own_hash (fun j => ([a0b, a1b, yb, a0b, a1b, zb, (0 : Int32), (0 : Int32), (0 : Int32)] : List Int32).getD j 0) 3 (5 - 3) 1)), (.int (own_hash (fun j => ([a0b, a1b, yb, a0b, a1b, zb, (0 : Int32), (0 : Int32), (0 : Int32)] : List Int32).getD j 0) 0 (2 - 0) 1))]))
      refine Jvm.OwnW.icmpNo O87 at_209 (teq (show (own_hash (fun j => ([a0b, a1b, yb, a0b, a1b, zb, (0 : Int32), (0 : Int32), (0 : Int32)] : List Int32).getD j 0) 0 (2 - 0) 1) = (own_hash (fun j => ([a0b, a1b, yb, a0b, a1b, zb, (0 : Int32), (0 : Int32), (0 : Int32)] : List Int32).getD j 0) 3 (5 - 3) 1) from rfl)).2 (q := 212) rfl ?_
      refine Jvm.OwnW.iconst O87 at_212 (r := (1 : Int32)) rfl (q := 213) rfl ?_
      refine Jvm.OwnW.goto O87 at_213 (by decide) (q := 217) rfl ?_
      exact Jvm.OwnW.retB O87 at_217 rfl (Or.inr rfl) (by decide) (by decide) rfl
    · skip
      refine Jvm.OwnW.bipush O at_47 (r := (9 : Int32)) rfl (q := 49) rfl ?_
      refine Jvm.OwnW.newA' O at_49 (ty := .byte) rfl (hw _ (List.mem_of_getElem? (i := 0) rfl)) (N := 9) rfl (cap := 9) (by decide) (by decide) (c2 := 1) (s2 := 9) rfl rfl (by decide) (by decide) (q := 51) rfl ?_
      intro a88 T88 h88 g88 N88 O88 X88 V_a88
      have V_a88 : Ar Z h88 a88 .byte 9 (lf [(.int (0 : Int32)), (.int (0 : Int32)), (.int (0 : Int32)), (.int (0 : Int32)), (.int (0 : Int32)), (.int (0 : Int32)), (.int (0 : Int32)), (.int (0 : Int32)), (.int (0 : Int32))]) := V_a88.congr (lf_rep 9 _)
      refine Jvm.OwnW.astore O88 at_51 rfl (L' := #[.val (.int p0), .val (.int p1), .val (.int p2), .val (.int (2 : Int32)), .val (.int (1 : Int32)), .val (.int a0b), .val (.int a1b), .val (.int a2b), .val (.int xb), .val (.int yb), .val (.int zb), .val (.ref a88), .unset, .unset]) rfl (q := 53) rfl ?_
      refine Jvm.OwnW.iload O88 at_53 rfl (q := 55) rfl ?_
      refine Jvm.OwnW.iconst O88 at_55 (r := (1 : Int32)) rfl (q := 56) rfl ?_
      refine Jvm.OwnW.icmpNo O88 at_56 (teq (show (1 : Int32) = (1 : Int32) from (by decide))).2 (q := 59) rfl ?_
      refine Jvm.OwnW.aload O88 at_59 rfl rfl (q := 61) rfl ?_
      refine Jvm.OwnW.iconst O88 at_61 (r := (0 : Int32)) rfl (q := 62) rfl ?_
      refine Jvm.OwnW.iload O88 at_62 rfl (q := 64) rfl ?_
      refine Jvm.OwnW.basA O88 at_64 V_a88 (i := 0) rfl (by decide) (Or.inr N88) (y := xb) bxb (q := 65) rfl ?_
      intro T89 h89 O89 W89
      have V_a88 : Ar Z h89 a88 .byte 9 (lf [(.int xb), (.int (0 : Int32)), (.int (0 : Int32)), (.int (0 : Int32)), (.int (0 : Int32)), (.int (0 : Int32)), (.int (0 : Int32)), (.int (0 : Int32)), (.int (0 : Int32))]) := V_a88.setL W89 (by decide) (Nat.le_of_ble_eq_true rfl)
      refine Jvm.OwnW.aload O89 at_65 rfl rfl (q := 67) rfl ?_
      refine Jvm.OwnW.iload O89 at_67 rfl (q := 69) rfl ?_
      refine Jvm.OwnW.iloadN O89 at_69 rfl (q := 70) rfl ?_
      refine Jvm.OwnW.iload O89 at_70 rfl (q := 72) rfl ?_
      refine Jvm.OwnW.iload O89 at_72 rfl (q := 74) rfl ?_
      refine Jvm.OwnW.iload O89 at_74 rfl (q := 76) rfl ?_
      refine Jvm.OwnW.callS O89 (y := (⟨"com/example/lamina/lamina/table/TextVectorHashAtPinLaw", "put", "([BIIBBB)V"⟩ : MethodName)) (argsL := [(.ref a88), (.int (1 : Int32)), (.int (2 : Int32)), (.int a0b), (.int a1b), (.int a2b)]) (rest := []) at_76 (hw _ (List.mem_of_getElem? (i := 1) rfl)) (hw _ (List.mem_of_getElem? (i := 2) rfl)) (hw _ (List.mem_of_getElem? (i := 3) rfl)) (hw _ (List.mem_of_getElem? (i := 4) rfl)) (by decide) (rm_p2 l Z a0 hw a88 (1 : Int32) a0b a1b a2b 1 _ h89 V_a88 rfl rfl (by decide) ba0b ba1b ba2b) rfl pd_0 rfl (hst := rfl) (W := 0) (Nat.le_of_eq rfl) (by decide) (by decide) (c2 := 1) (s2 := 9) rfl rfl (by decide) (by decide) (allS (Or.inr N88) all0) (q := 79) rfl ?_
      intro v90 T90 h90 O90 K90 q90
      obtain ⟨rfl, V_a88⟩ := q90
      have V_a88 : Ar Z h90 a88 .byte 9 (lf [(.int xb), (.int a0b), (.int a1b), (.int (0 : Int32)), (.int (0 : Int32)), (.int (0 : Int32)), (.int (0 : Int32)), (.int (0 : Int32)), (.int (0 : Int32))]) := V_a88
      show Go C _ _ _ _ (T90.setTop (mkF C.m 79 #[.val (.int p0), .val (.int p1), .val (.int p2), .val (.int (2 : Int32)), .val (.int (1 : Int32)), .val (.int a0b), .val (.int a1b), .val (.int a2b), .val (.int xb), .val (.int yb), .val (.int zb), .val (.ref a88), .unset, .unset] []))
      refine Jvm.OwnW.aload O90 at_79 rfl rfl (q := 81) rfl ?_
      refine Jvm.OwnW.iload O90 at_81 rfl (q := 83) rfl ?_
      refine Jvm.OwnW.iloadN O90 at_83 rfl (q := 84) rfl ?_
      refine Jvm.OwnW.iadd O90 at_84 (r := (3 : Int32)) (by decide) (q := 85) rfl ?_
      refine Jvm.OwnW.iload O90 at_85 rfl (q := 87) rfl ?_
      refine Jvm.OwnW.basA O90 at_87 V_a88 (i := 3) rfl (by decide) (Or.inr N88) (y := yb) byb (q := 88) rfl ?_
      intro T91 h91 O91 W91
      have V_a88 : Ar Z h91 a88 .byte 9 (lf [(.int xb), (.int a0b), (.int a1b), (.int yb), (.int (0 : Int32)), (.int (0 : Int32)), (.int (0 : Int32)), (.int (0 : Int32)), (.int (0 : Int32))]) := V_a88.setL W91 (by decide) (Nat.le_of_ble_eq_true rfl)
      refine Jvm.OwnW.aload O91 at_88 rfl rfl (q := 90) rfl ?_
      refine Jvm.OwnW.iload O91 at_90 rfl (q := 92) rfl ?_
      refine Jvm.OwnW.iloadN O91 at_92 rfl (q := 93) rfl ?_
      refine Jvm.OwnW.iadd O91 at_93 (r := (3 : Int32)) (by decide) (q := 94) rfl ?_
      refine Jvm.OwnW.iconst O91 at_94 (r := (1 : Int32)) rfl (q := 95) rfl ?_
      refine Jvm.OwnW.iadd O91 at_95 (r := (4 : Int32)) (by decide) (q := 96) rfl ?_
      refine Jvm.OwnW.iloadN O91 at_96 rfl (q := 97) rfl ?_
      refine Jvm.OwnW.iload O91 at_97 rfl (q := 99) rfl ?_
      refine Jvm.OwnW.iload O91 at_99 rfl (q := 101) rfl ?_
      refine Jvm.OwnW.iload O91 at_101 rfl (q := 103) rfl ?_
      refine Jvm.OwnW.callS O91 (y := (⟨"com/example/lamina/lamina/table/TextVectorHashAtPinLaw", "put", "([BIIBBB)V"⟩ : MethodName)) (argsL := [(.ref a88), (.int (4 : Int32)), (.int (2 : Int32)), (.int a0b), (.int a1b), (.int a2b)]) (rest := []) at_103 (hw _ (List.mem_of_getElem? (i := 1) rfl)) (hw _ (List.mem_of_getElem? (i := 2) rfl)) (hw _ (List.mem_of_getElem? (i := 3) rfl)) (hw _ (List.mem_of_getElem? (i := 4) rfl)) (by decide) (rm_p2 l Z a0 hw a88 (4 : Int32) a0b a1b a2b 4 _ h91 V_a88 rfl rfl (by decide) ba0b ba1b ba2b) rfl pd_0 rfl (hst := rfl) (W := 0) (Nat.le_of_eq rfl) (by decide) (by decide) (c2 := 1) (s2 := 9) rfl rfl (by decide) (by decide) (allS (Or.inr N88) all0) (q := 106) rfl ?_
      intro v92 T92 h92 O92 K92 q92
      obtain ⟨rfl, V_a88⟩ := q92
      have V_a88 : Ar Z h92 a88 .byte 9 (lf [(.int xb), (.int a0b), (.int a1b), (.int yb), (.int a0b), (.int a1b), (.int (0 : Int32)), (.int (0 : Int32)), (.int (0 : Int32))]) := V_a88
      show Go C _ _ _ _ (T92.setTop (mkF C.m 106 #[.val (.int p0), .val (.int p1), .val (.int p2), .val (.int (2 : Int32)), .val (.int (1 : Int32)), .val (.int a0b), .val (.int a1b), .val (.int a2b), .val (.int xb), .val (.int yb), .val (.int zb), .val (.ref a88), .unset, .unset] []))
      refine Jvm.OwnW.aload O92 at_106 rfl rfl (q := 108) rfl ?_
      refine Jvm.OwnW.iload O92 at_108 rfl (q := 110) rfl ?_
      refine Jvm.OwnW.iconst O92 at_110 (r := (2 : Int32)) rfl (q := 111) rfl ?_
      refine Jvm.OwnW.iloadN O92 at_111 rfl (q := 112) rfl ?_
      refine Jvm.OwnW.imul O92 at_112 (r := (4 : Int32)) (by decide) (q := 113) rfl ?_
      refine Jvm.OwnW.iadd O92 at_113 (r := (5 : Int32)) (by decide) (q := 114) rfl ?_
      refine Jvm.OwnW.iconst O92 at_114 (r := (1 : Int32)) rfl (q := 115) rfl ?_
      refine Jvm.OwnW.iadd O92 at_115 (r := (6 : Int32)) (by decide) (q := 116) rfl ?_
      refine Jvm.OwnW.iload O92 at_116 rfl (q := 118) rfl ?_
      refine Jvm.OwnW.basA O92 at_118 V_a88 (i := 6) rfl (by decide) (Or.inr N88) (y := zb) bzb (q := 119) rfl ?_
      intro T93 h93 O93 W93
      have V_a88 : Ar Z h93 a88 .byte 9 (lf [(.int xb), (.int a0b), (.int a1b), (.int yb), (.int a0b), (.int a1b), (.int zb), (.int (0 : Int32)), (.int (0 : Int32))]) := V_a88.setL W93 (by decide) (Nat.le_of_ble_eq_true rfl)
      refine Jvm.OwnW.bipush O93 at_119 (r := (6 : Int32)) rfl (q := 121) rfl ?_
      refine Jvm.OwnW.newA' O93 at_121 (ty := .int) rfl (hw _ (List.mem_of_getElem? (i := 5) rfl)) (N := 6) rfl (cap := 6) (by decide) (by decide) (c2 := 2) (s2 := 15) rfl rfl (by decide) (by decide) (q := 123) rfl ?_
      intro a94 T94 h94 g94 N94 O94 X94 V_a94
      have ne_a88_a94 : a88 ≠ a94 := Nat.ne_of_lt (Nat.lt_of_lt_of_le V_a88.lt (Nat.le_of_eq g94.symm))
      have V_a88 := V_a88.ext X94
      have V_a94 : Ar Z h94 a94 .int 6 (lf [(.int (0 : Int32)), (.int (0 : Int32)), (.int (0 : Int32)), (.int (0 : Int32)), (.int (0 : Int32)), (.int (0 : Int32))]) := V_a94.congr (lf_rep 6 _)
      refine Jvm.OwnW.astore O94 at_123 rfl (L' := #[.val (.int p0), .val (.int p1), .val (.int p2), .val (.int (2 : Int32)), .val (.int (1 : Int32)), .val (.int a0b), .val (.int a1b), .val (.int a2b), .val (.int xb), .val (.int yb), .val (.int zb), .val (.ref a88), .val (.ref a94), .unset]) rfl (q := 125) rfl ?_
      refine Jvm.OwnW.aload O94 at_125 rfl rfl (q := 127) rfl ?_
      refine Jvm.OwnW.iconst O94 at_127 (r := (0 : Int32)) rfl (q := 128) rfl ?_
      refine Jvm.OwnW.iconst O94 at_128 (r := (0 : Int32)) rfl (q := 129) rfl ?_
      refine Jvm.OwnW.iasA O94 at_129 V_a94 (i := 0) rfl (by decide) (Or.inr N94) (q := 130) rfl ?_
      intro T95 h95 O95 W95
      have V_a94 : Ar Z h95 a94 .int 6 (lf [(.int (0 : Int32)), (.int (0 : Int32)), (.int (0 : Int32)), (.int (0 : Int32)), (.int (0 : Int32)), (.int (0 : Int32))]) := V_a94.setL W95 (by decide) (Nat.le_of_ble_eq_true rfl)
      have V_a88 := V_a88.other W95 ne_a88_a94
      refine Jvm.OwnW.aload O95 at_130 rfl rfl (q := 132) rfl ?_
      refine Jvm.OwnW.iconst O95 at_132 (r := (1 : Int32)) rfl (q := 133) rfl ?_
      refine Jvm.OwnW.iload O95 at_133 rfl (q := 135) rfl ?_
      refine Jvm.OwnW.iasA O95 at_135 V_a94 (i := 1) rfl (by decide) (Or.inr N94) (q := 136) rfl ?_
      intro T96 h96 O96 W96
      have V_a94 : Ar Z h96 a94 .int 6 (lf [(.int (0 : Int32)), (.int (1 : Int32)), (.int (0 : Int32)), (.int (0 : Int32)), (.int (0 : Int32)), (.int (0 : Int32))]) := V_a94.setL W96 (by decide) (Nat.le_of_ble_eq_true rfl)
      have V_a88 := V_a88.other W96 ne_a88_a94
      refine Jvm.OwnW.aload O96 at_136 rfl rfl (q := 138) rfl ?_
      refine Jvm.OwnW.iconst O96 at_138 (r := (2 : Int32)) rfl (q := 139) rfl ?_
      refine Jvm.OwnW.iload O96 at_139 rfl (q := 141) rfl ?_
      refine Jvm.OwnW.iloadN O96 at_141 rfl (q := 142) rfl ?_
      refine Jvm.OwnW.iadd O96 at_142 (r := (3 : Int32)) (by decide) (q := 143) rfl ?_
      refine Jvm.OwnW.iasA O96 at_143 V_a94 (i := 2) rfl (by decide) (Or.inr N94) (q := 144) rfl ?_
      intro T97 h97 O97 W97
      have V_a94 : Ar Z h97 a94 .int 6 (lf [(.int (0 : Int32)), (.int (1 : Int32)), (.int (3 : Int32)), (.int (0 : Int32)), (.int (0 : Int32)), (.int (0 : Int32))]) := V_a94.setL W97 (by decide) (Nat.le_of_ble_eq_true rfl)
      have V_a88 := V_a88.other W97 ne_a88_a94
      refine Jvm.OwnW.aload O97 at_144 rfl rfl (q := 146) rfl ?_
      refine Jvm.OwnW.iconst O97 at_146 (r := (3 : Int32)) rfl (q := 147) rfl ?_
      refine Jvm.OwnW.iload O97 at_147 rfl (q := 149) rfl ?_
      refine Jvm.OwnW.iloadN O97 at_149 rfl (q := 150) rfl ?_
      refine Jvm.OwnW.iadd O97 at_150 (r := (3 : Int32)) (by decide) (q := 151) rfl ?_
      refine Jvm.OwnW.iconst O97 at_151 (r := (1 : Int32)) rfl (q := 152) rfl ?_
      refine Jvm.OwnW.iadd O97 at_152 (r := (4 : Int32)) (by decide) (q := 153) rfl ?_
      refine Jvm.OwnW.iasA O97 at_153 V_a94 (i := 3) rfl (by decide) (Or.inr N94) (q := 154) rfl ?_
      intro T98 h98 O98 W98
      have V_a94 : Ar Z h98 a94 .int 6 (lf [(.int (0 : Int32)), (.int (1 : Int32)), (.int (3 : Int32)), (.int (4 : Int32)), (.int (0 : Int32)), (.int (0 : Int32))]) := V_a94.setL W98 (by decide) (Nat.le_of_ble_eq_true rfl)
      have V_a88 := V_a88.other W98 ne_a88_a94
      refine Jvm.OwnW.aload O98 at_154 rfl rfl (q := 156) rfl ?_
      refine Jvm.OwnW.iconst O98 at_156 (r := (4 : Int32)) rfl (q := 157) rfl ?_
      refine Jvm.OwnW.iload O98 at_157 rfl (q := 159) rfl ?_
      refine Jvm.OwnW.iconst O98 at_159 (r := (2 : Int32)) rfl (q := 160) rfl ?_
      refine Jvm.OwnW.iloadN O98 at_160 rfl (q := 161) rfl ?_
      refine Jvm.OwnW.imul O98 at_161 (r := (4 : Int32)) (by decide) (q := 162) rfl ?_
      refine Jvm.OwnW.iadd O98 at_162 (r := (5 : Int32)) (by decide) (q := 163) rfl ?_
      refine Jvm.OwnW.iconst O98 at_163 (r := (1 : Int32)) rfl (q := 164) rfl ?_
      refine Jvm.OwnW.iadd O98 at_164 (r := (6 : Int32)) (by decide) (q := 165) rfl ?_
      refine Jvm.OwnW.iasA O98 at_165 V_a94 (i := 4) rfl (by decide) (Or.inr N94) (q := 166) rfl ?_
      intro T99 h99 O99 W99
      have V_a94 : Ar Z h99 a94 .int 6 (lf [(.int (0 : Int32)), (.int (1 : Int32)), (.int (3 : Int32)), (.int (4 : Int32)), (.int (6 : Int32)), (.int (0 : Int32))]) := V_a94.setL W99 (by decide) (Nat.le_of_ble_eq_true rfl)
      have V_a88 := V_a88.other W99 ne_a88_a94
      refine Jvm.OwnW.aload O99 at_166 rfl rfl (q := 168) rfl ?_
      refine Jvm.OwnW.iconst O99 at_168 (r := (5 : Int32)) rfl (q := 169) rfl ?_
      refine Jvm.OwnW.iload O99 at_169 rfl (q := 171) rfl ?_
      refine Jvm.OwnW.iconst O99 at_171 (r := (2 : Int32)) rfl (q := 172) rfl ?_
      refine Jvm.OwnW.iloadN O99 at_172 rfl (q := 173) rfl ?_
      refine Jvm.OwnW.imul O99 at_173 (r := (4 : Int32)) (by decide) (q := 174) rfl ?_
      refine Jvm.OwnW.iadd O99 at_174 (r := (5 : Int32)) (by decide) (q := 175) rfl ?_
      refine Jvm.OwnW.iconst O99 at_175 (r := (2 : Int32)) rfl (q := 176) rfl ?_
      refine Jvm.OwnW.iadd O99 at_176 (r := (7 : Int32)) (by decide) (q := 177) rfl ?_
      refine Jvm.OwnW.iasA O99 at_177 V_a94 (i := 5) rfl (by decide) (Or.inr N94) (q := 178) rfl ?_
      intro T100 h100 O100 W100
      have V_a94 : Ar Z h100 a94 .int 6 (lf [(.int (0 : Int32)), (.int (1 : Int32)), (.int (3 : Int32)), (.int (4 : Int32)), (.int (6 : Int32)), (.int (7 : Int32))]) := V_a94.setL W100 (by decide) (Nat.le_of_ble_eq_true rfl)
      have V_a88 := V_a88.other W100 ne_a88_a94
      refine Jvm.OwnW.newO O100 at_178 (hw _ (List.mem_of_getElem? (i := 6) rfl)) (hw _ (List.mem_of_getElem? (i := 7) rfl)) (hw _ (List.mem_of_getElem? (i := 8) rfl)) (c2 := 3) (s2 := 18) rfl rfl (by decide) (by decide) (q := 181) rfl ?_
      intro a101 T101 h101 g101 N101 O101 X101 E_a101 D101
      have ne_a88_a101 : a88 ≠ a101 := Nat.ne_of_lt (Nat.lt_of_lt_of_le V_a88.lt (Nat.le_of_eq g101.symm))
      have ne_a94_a101 : a94 ≠ a101 := Nat.ne_of_lt (Nat.lt_of_lt_of_le V_a94.lt (Nat.le_of_eq g101.symm))
      have V_a88 := V_a88.ext X101
      have V_a94 := V_a94.ext X101
      have F_data_a101 : Fld Z h101 a101 "com/example/lamina/lamina/table/TextVector" "data" "[B" .null := D101 (Or.inl (hw _ (List.mem_of_getElem? (i := 16) rfl))) (ty := (.array .byte)) (by decide)
      have F_offsets_a101 : Fld Z h101 a101 "com/example/lamina/lamina/table/TextVector" "offsets" "[I" .null := D101 (Or.inl (hw _ (List.mem_of_getElem? (i := 18) rfl))) (ty := (.array .int)) (by decide)
      have F_size_a101 : Fld Z h101 a101 "com/example/lamina/lamina/table/TextVector" "size" "I" (.int (0 : Int32)) := D101 (Or.inl (hw _ (List.mem_of_getElem? (i := 25) rfl))) (ty := .int) (by decide)
      refine Jvm.OwnW.dup O101 at_181 rfl (q := 182) rfl ?_
      refine Jvm.OwnW.callI O101 (y := (⟨"com/example/lamina/lamina/table/TextVector", "<init>", "()V"⟩ : MethodName)) (a := a101) (argsL := []) (rest := [(.ref a101)]) at_182 rfl (hw _ (List.mem_of_getElem? (i := 9) rfl)) (hw _ (List.mem_of_getElem? (i := 10) rfl)) (hw _ (List.mem_of_getElem? (i := 8) rfl)) (hw _ (List.mem_of_getElem? (i := 11) rfl)) (by decide) (rm_i l Z a0 hw a101 h101 E_a101 F_data_a101 F_offsets_a101 F_size_a101) rfl pd_1 rfl (hst := rfl) (W := 1) (Nat.le_of_eq rfl) (by decide) (by decide) (c2 := 5) (s2 := 19) rfl rfl (by decide) (by decide) (allS (Or.inr N101) all0) (q := 185) rfl ?_
      intro v102 T102 h102 O102 K102 q102
      obtain ⟨rfl, b_a101, c_a101, F_data_a101, F_offsets_a101, F_size_a101⟩ := q102
      have V_a88 := V_a88.keep K102 (ninS ne_a88_a101 nin0)
      have V_a94 := V_a94.keep K102 (ninS ne_a94_a101 nin0)
      have E_a101 := E_a101.keep K102
      show Go C _ _ _ _ (T102.setTop (mkF C.m 185 #[.val (.int p0), .val (.int p1), .val (.int p2), .val (.int (2 : Int32)), .val (.int (1 : Int32)), .val (.int a0b), .val (.int a1b), .val (.int a2b), .val (.int xb), .val (.int yb), .val (.int zb), .val (.ref a88), .val (.ref a94), .unset] [(.ref a101)]))
      refine Jvm.OwnW.astore O102 at_185 rfl (L' := #[.val (.int p0), .val (.int p1), .val (.int p2), .val (.int (2 : Int32)), .val (.int (1 : Int32)), .val (.int a0b), .val (.int a1b), .val (.int a2b), .val (.int xb), .val (.int yb), .val (.int zb), .val (.ref a88), .val (.ref a94), .val (.ref a101)]) rfl (q := 187) rfl ?_
      refine Jvm.OwnW.aload O102 at_187 rfl rfl (q := 189) rfl ?_
      refine Jvm.OwnW.aload O102 at_189 rfl rfl (q := 191) rfl ?_
      refine Jvm.OwnW.aload O102 at_191 rfl rfl (q := 193) rfl ?_
      refine Jvm.OwnW.iconst O102 at_193 (r := (5 : Int32)) rfl (q := 194) rfl ?_
      refine Jvm.OwnW.callV O102 (y := (⟨"com/example/lamina/lamina/table/TextVector", "reset", "([B[II)V"⟩ : MethodName)) (z := (⟨"com/example/lamina/lamina/table/TextVector", "reset", "([B[II)V"⟩ : MethodName)) (a := a101) (argsL := [(.ref a88), (.ref a94), (.int (5 : Int32))]) (rest := []) at_194 (hw _ (List.mem_of_getElem? (i := 19) rfl)) (hw _ (List.mem_of_getElem? (i := 20) rfl)) (hw _ (List.mem_of_getElem? (i := 22) rfl)) rfl (hw _ (List.mem_of_getElem? (i := 21) rfl)) (hw _ (List.mem_of_getElem? (i := 8) rfl)) (hw _ (List.mem_of_getElem? (i := 23) rfl)) (by decide) (rm_r l Z a0 hw a101 a88 a94 (5 : Int32) _ _ _ h102 E_a101 F_data_a101 F_offsets_a101 F_size_a101) E_a101 rfl pd_2 rfl (hst := rfl) (W := 0) (Nat.le_of_eq rfl) (by decide) (by decide) (c2 := 5) (s2 := 19) rfl rfl (by decide) (by decide) (allS (Or.inr N101) all0) (q := 197) rfl ?_
      intro v103 T103 h103 O103 K103 q103
      obtain ⟨rfl, F_data_a101, F_offsets_a101, F_size_a101⟩ := q103
      have V_a88 := V_a88.keep K103 (ninS ne_a88_a101 nin0)
      have V_a94 := V_a94.keep K103 (ninS ne_a94_a101 nin0)
      have E_a101 := E_a101.keep K103
      show Go C _ _ _ _ (T103.setTop (mkF C.m 197 #[.val (.int p0), .val (.int p1), .val (.int p2), .val (.int (2 : Int32)), .val (.int (1 : Int32)), .val (.int a0b), .val (.int a1b), .val (.int a2b), .val (.int xb), .val (.int yb), .val (.int zb), .val (.ref a88), .val (.ref a94), .val (.ref a101)] []))
      refine Jvm.OwnW.aload O103 at_197 rfl rfl (q := 199) rfl ?_
      refine Jvm.OwnW.iconst O103 at_199 (r := (1 : Int32)) rfl (q := 200) rfl ?_
      refine Jvm.OwnW.callV0 O103 (y := (⟨"com/example/lamina/lamina/table/TextVector", "hashAt", "(I)I"⟩ : MethodName)) (z := (⟨"com/example/lamina/lamina/table/TextVector", "hashAt", "(I)I"⟩ : MethodName)) (a := a101) (argsL := [(.int (1 : Int32))]) (rest := []) at_200 (hw _ (List.mem_of_getElem? (i := 26) rfl)) (hw _ (List.mem_of_getElem? (i := 27) rfl)) (hw _ (List.mem_of_getElem? (i := 29) rfl)) rfl (hw _ (List.mem_of_getElem? (i := 28) rfl)) (hw _ (List.mem_of_getElem? (i := 8) rfl)) (hw _ (List.mem_of_getElem? (i := 30) rfl)) (by decide) (rm_h l Z a0 hw a101 (1 : Int32) a88 a94 9 6 1 1 3 (fun j => ([xb, a0b, a1b, yb, a0b, a1b, zb, (0 : Int32), (0 : Int32)] : List Int32).getD j 0) (fun j => ([(0 : Int32), (1 : Int32), (3 : Int32), (4 : Int32), (6 : Int32), (7 : Int32)] : List Int32).getD j 0) h103 E_a101 F_data_a101 F_offsets_a101 (V_a88.congr (lf_int [xb, a0b, a1b, yb, a0b, a1b, zb, (0 : Int32), (0 : Int32)])) (V_a94.congr (lf_int [(0 : Int32), (1 : Int32), (3 : Int32), (4 : Int32), (6 : Int32), (7 : Int32)])) rfl (by decide) rfl rfl (by decide) (by decide)) E_a101 rfl pd_3 rfl (hst := rfl) (W := 0) (Nat.le_of_eq rfl) (by decide) (by decide) (c2 := 5) (s2 := 19) rfl rfl (by decide) (by decide) rfl rfl (q := 203) rfl ?_
      intro v104 T104 O104 q104
      obtain rfl := q104
      show Go C _ _ _ _ (T104.setTop (mkF C.m 203 #[.val (.int p0), .val (.int p1), .val (.int p2), .val (.int (2 : Int32)), .val (.int (1 : Int32)), .val (.int a0b), .val (.int a1b), .val (.int a2b), .val (.int xb), .val (.int yb), .val (.int zb), .val (.ref a88), .val (.ref a94), .val (.ref a101)] [(.int (own_hash (fun j => ([xb, a0b, a1b, yb, a0b, a1b, zb, (0 : Int32), (0 : Int32)] : List Int32).getD j 0) 1 (3 - 1) 1))]))
      refine Jvm.OwnW.aload O104 at_203 rfl rfl (q := 205) rfl ?_
      refine Jvm.OwnW.iconst O104 at_205 (r := (3 : Int32)) rfl (q := 206) rfl ?_
      refine Jvm.OwnW.callV0 O104 (y := (⟨"com/example/lamina/lamina/table/TextVector", "hashAt", "(I)I"⟩ : MethodName)) (z := (⟨"com/example/lamina/lamina/table/TextVector", "hashAt", "(I)I"⟩ : MethodName)) (a := a101) (argsL := [(.int (3 : Int32))]) (rest := [(.int (own_hash (fun j => ([xb, a0b, a1b, yb, a0b, a1b, zb, (0 : Int32), (0 : Int32)] : List Int32).getD j 0) 1 (3 - 1) 1))]) at_206 (hw _ (List.mem_of_getElem? (i := 26) rfl)) (hw _ (List.mem_of_getElem? (i := 27) rfl)) (hw _ (List.mem_of_getElem? (i := 29) rfl)) rfl (hw _ (List.mem_of_getElem? (i := 28) rfl)) (hw _ (List.mem_of_getElem? (i := 8) rfl)) (hw _ (List.mem_of_getElem? (i := 30) rfl)) (by decide) (rm_h l Z a0 hw a101 (3 : Int32) a88 a94 9 6 3 4 6 (fun j => ([xb, a0b, a1b, yb, a0b, a1b, zb, (0 : Int32), (0 : Int32)] : List Int32).getD j 0) (fun j => ([(0 : Int32), (1 : Int32), (3 : Int32), (4 : Int32), (6 : Int32), (7 : Int32)] : List Int32).getD j 0) h103 E_a101 F_data_a101 F_offsets_a101 (V_a88.congr (lf_int [xb, a0b, a1b, yb, a0b, a1b, zb, (0 : Int32), (0 : Int32)])) (V_a94.congr (lf_int [(0 : Int32), (1 : Int32), (3 : Int32), (4 : Int32), (6 : Int32), (7 : Int32)])) rfl (by decide) rfl rfl (by decide) (by decide)) E_a101 rfl pd_3 rfl (hst := rfl) (W := 1) (Nat.le_of_eq rfl) (by decide) (by decide) (c2 := 5) (s2 := 19) rfl rfl (by decide) (by decide) rfl rfl (q := 209) rfl ?_
      intro v105 T105 O105 q105
      obtain rfl := q105
      show Go C _ _ _ _ (T105.setTop (mkF C.m 209 #[.val (.int p0), .val (.int p1), .val (.int p2), .val (.int (2 : Int32)), .val (.int (1 : Int32)), .val (.int a0b), .val (.int a1b), .val (.int a2b), .val (.int xb), .val (.int yb), .val (.int zb), .val (.ref a88), .val (.ref a94), .val (.ref a101)] [(.int (own_hash (fun j => ([xb, a0b, a1b, yb, a0b, a1b, zb, (0 : Int32), (0 : Int32)] : List Int32).getD j 0) 4 (6 - 4) 1)), (.int (own_hash (fun j => ([xb, a0b, a1b, yb, a0b, a1b, zb, (0 : Int32), (0 : Int32)] : List Int32).getD j 0) 1 (3 - 1) 1))]))
      refine Jvm.OwnW.icmpNo O105 at_209 (teq (show (own_hash (fun j => ([xb, a0b, a1b, yb, a0b, a1b, zb, (0 : Int32), (0 : Int32)] : List Int32).getD j 0) 1 (3 - 1) 1) = (own_hash (fun j => ([xb, a0b, a1b, yb, a0b, a1b, zb, (0 : Int32), (0 : Int32)] : List Int32).getD j 0) 4 (6 - 4) 1) from rfl)).2 (q := 212) rfl ?_
      refine Jvm.OwnW.iconst O105 at_212 (r := (1 : Int32)) rfl (q := 213) rfl ?_
      refine Jvm.OwnW.goto O105 at_213 (by decide) (q := 217) rfl ?_
      exact Jvm.OwnW.retB O105 at_217 rfl (Or.inr rfl) (by decide) (by decide) rfl
  · skip
    rcases hp2 with rfl | rfl
    · skip
      refine Jvm.OwnW.bipush O at_47 (r := (9 : Int32)) rfl (q := 49) rfl ?_
      refine Jvm.OwnW.newA' O at_49 (ty := .byte) rfl (hw _ (List.mem_of_getElem? (i := 0) rfl)) (N := 9) rfl (cap := 9) (by decide) (by decide) (c2 := 1) (s2 := 9) rfl rfl (by decide) (by decide) (q := 51) rfl ?_
      intro a106 T106 h106 g106 N106 O106 X106 V_a106
      have V_a106 : Ar Z h106 a106 .byte 9 (lf [(.int (0 : Int32)), (.int (0 : Int32)), (.int (0 : Int32)), (.int (0 : Int32)), (.int (0 : Int32)), (.int (0 : Int32)), (.int (0 : Int32)), (.int (0 : Int32)), (.int (0 : Int32))]) := V_a106.congr (lf_rep 9 _)
      refine Jvm.OwnW.astore O106 at_51 rfl (L' := #[.val (.int p0), .val (.int p1), .val (.int p2), .val (.int (3 : Int32)), .val (.int (0 : Int32)), .val (.int a0b), .val (.int a1b), .val (.int a2b), .val (.int xb), .val (.int yb), .val (.int zb), .val (.ref a106), .unset, .unset]) rfl (q := 53) rfl ?_
      refine Jvm.OwnW.iload O106 at_53 rfl (q := 55) rfl ?_
      refine Jvm.OwnW.iconst O106 at_55 (r := (1 : Int32)) rfl (q := 56) rfl ?_
      refine Jvm.OwnW.icmpYes O106 at_56 (feq (show ¬ ((0 : Int32) = (1 : Int32)) from (by decide))).2 (by decide) (q := 65) rfl ?_
      refine Jvm.OwnW.aload O106 at_65 rfl rfl (q := 67) rfl ?_
      refine Jvm.OwnW.iload O106 at_67 rfl (q := 69) rfl ?_
      refine Jvm.OwnW.iloadN O106 at_69 rfl (q := 70) rfl ?_
      refine Jvm.OwnW.iload O106 at_70 rfl (q := 72) rfl ?_
      refine Jvm.OwnW.iload O106 at_72 rfl (q := 74) rfl ?_
      refine Jvm.OwnW.iload O106 at_74 rfl (q := 76) rfl ?_
      refine Jvm.OwnW.callS O106 (y := (⟨"com/example/lamina/lamina/table/TextVectorHashAtPinLaw", "put", "([BIIBBB)V"⟩ : MethodName)) (argsL := [(.ref a106), (.int (0 : Int32)), (.int (3 : Int32)), (.int a0b), (.int a1b), (.int a2b)]) (rest := []) at_76 (hw _ (List.mem_of_getElem? (i := 1) rfl)) (hw _ (List.mem_of_getElem? (i := 2) rfl)) (hw _ (List.mem_of_getElem? (i := 3) rfl)) (hw _ (List.mem_of_getElem? (i := 4) rfl)) (by decide) (rm_p3 l Z a0 hw a106 (0 : Int32) a0b a1b a2b 0 _ h106 V_a106 rfl rfl (by decide) ba0b ba1b ba2b) rfl pd_0 rfl (hst := rfl) (W := 0) (Nat.le_of_eq rfl) (by decide) (by decide) (c2 := 1) (s2 := 9) rfl rfl (by decide) (by decide) (allS (Or.inr N106) all0) (q := 79) rfl ?_
      intro v107 T107 h107 O107 K107 q107
      obtain ⟨rfl, V_a106⟩ := q107
      have V_a106 : Ar Z h107 a106 .byte 9 (lf [(.int a0b), (.int a1b), (.int a2b), (.int (0 : Int32)), (.int (0 : Int32)), (.int (0 : Int32)), (.int (0 : Int32)), (.int (0 : Int32)), (.int (0 : Int32))]) := V_a106
      show Go C _ _ _ _ (T107.setTop (mkF C.m 79 #[.val (.int p0), .val (.int p1), .val (.int p2), .val (.int (3 : Int32)), .val (.int (0 : Int32)), .val (.int a0b), .val (.int a1b), .val (.int a2b), .val (.int xb), .val (.int yb), .val (.int zb), .val (.ref a106), .unset, .unset] []))
      refine Jvm.OwnW.aload O107 at_79 rfl rfl (q := 81) rfl ?_
      refine Jvm.OwnW.iload O107 at_81 rfl (q := 83) rfl ?_
      refine Jvm.OwnW.iloadN O107 at_83 rfl (q := 84) rfl ?_
      refine Jvm.OwnW.iadd O107 at_84 (r := (3 : Int32)) (by decide) (q := 85) rfl ?_
      refine Jvm.OwnW.iload O107 at_85 rfl (q := 87) rfl ?_
      refine Jvm.OwnW.basA O107 at_87 V_a106 (i := 3) rfl (by decide) (Or.inr N106) (y := yb) byb (q := 88) rfl ?_
      intro T108 h108 O108 W108
      have V_a106 : Ar Z h108 a106 .byte 9 (lf [(.int a0b), (.int a1b), (.int a2b), (.int yb), (.int (0 : Int32)), (.int (0 : Int32)), (.int (0 : Int32)), (.int (0 : Int32)), (.int (0 : Int32))]) := V_a106.setL W108 (by decide) (Nat.le_of_ble_eq_true rfl)
      refine Jvm.OwnW.aload O108 at_88 rfl rfl (q := 90) rfl ?_
      refine Jvm.OwnW.iload O108 at_90 rfl (q := 92) rfl ?_
      refine Jvm.OwnW.iloadN O108 at_92 rfl (q := 93) rfl ?_
      refine Jvm.OwnW.iadd O108 at_93 (r := (3 : Int32)) (by decide) (q := 94) rfl ?_
      refine Jvm.OwnW.iconst O108 at_94 (r := (1 : Int32)) rfl (q := 95) rfl ?_
      refine Jvm.OwnW.iadd O108 at_95 (r := (4 : Int32)) (by decide) (q := 96) rfl ?_
      refine Jvm.OwnW.iloadN O108 at_96 rfl (q := 97) rfl ?_
      refine Jvm.OwnW.iload O108 at_97 rfl (q := 99) rfl ?_
      refine Jvm.OwnW.iload O108 at_99 rfl (q := 101) rfl ?_
      refine Jvm.OwnW.iload O108 at_101 rfl (q := 103) rfl ?_
      refine Jvm.OwnW.callS O108 (y := (⟨"com/example/lamina/lamina/table/TextVectorHashAtPinLaw", "put", "([BIIBBB)V"⟩ : MethodName)) (argsL := [(.ref a106), (.int (4 : Int32)), (.int (3 : Int32)), (.int a0b), (.int a1b), (.int a2b)]) (rest := []) at_103 (hw _ (List.mem_of_getElem? (i := 1) rfl)) (hw _ (List.mem_of_getElem? (i := 2) rfl)) (hw _ (List.mem_of_getElem? (i := 3) rfl)) (hw _ (List.mem_of_getElem? (i := 4) rfl)) (by decide) (rm_p3 l Z a0 hw a106 (4 : Int32) a0b a1b a2b 4 _ h108 V_a106 rfl rfl (by decide) ba0b ba1b ba2b) rfl pd_0 rfl (hst := rfl) (W := 0) (Nat.le_of_eq rfl) (by decide) (by decide) (c2 := 1) (s2 := 9) rfl rfl (by decide) (by decide) (allS (Or.inr N106) all0) (q := 106) rfl ?_
      intro v109 T109 h109 O109 K109 q109
      obtain ⟨rfl, V_a106⟩ := q109
      have V_a106 : Ar Z h109 a106 .byte 9 (lf [(.int a0b), (.int a1b), (.int a2b), (.int yb), (.int a0b), (.int a1b), (.int a2b), (.int (0 : Int32)), (.int (0 : Int32))]) := V_a106
      show Go C _ _ _ _ (T109.setTop (mkF C.m 106 #[.val (.int p0), .val (.int p1), .val (.int p2), .val (.int (3 : Int32)), .val (.int (0 : Int32)), .val (.int a0b), .val (.int a1b), .val (.int a2b), .val (.int xb), .val (.int yb), .val (.int zb), .val (.ref a106), .unset, .unset] []))
      refine Jvm.OwnW.aload O109 at_106 rfl rfl (q := 108) rfl ?_
      refine Jvm.OwnW.iload O109 at_108 rfl (q := 110) rfl ?_
      refine Jvm.OwnW.iconst O109 at_110 (r := (2 : Int32)) rfl (q := 111) rfl ?_
      refine Jvm.OwnW.iloadN O109 at_111 rfl (q := 112) rfl ?_
      refine Jvm.OwnW.imul O109 at_112 (r := (6 : Int32)) (by decide) (q := 113) rfl ?_
      refine Jvm.OwnW.iadd O109 at_113 (r := (6 : Int32)) (by decide) (q := 114) rfl ?_
      refine Jvm.OwnW.iconst O109 at_114 (r := (1 : Int32)) rfl (q := 115) rfl ?_
      refine Jvm.OwnW.iadd O109 at_115 (r := (7 : Int32)) (by decide) (q := 116) rfl ?_
      refine Jvm.OwnW.iload O109 at_116 rfl (q := 118) rfl ?_
      refine Jvm.OwnW.basA O109 at_118 V_a106 (i := 7) rfl (by decide) (Or.inr N106) (y := zb) bzb (q := 119) rfl ?_
      intro T110 h110 O110 W110
      have V_a106 : Ar Z h110 a106 .byte 9 (lf [(.int a0b), (.int a1b), (.int a2b), (.int yb), (.int a0b), (.int a1b), (.int a2b), (.int zb), (.int (0 : Int32))]) := V_a106.setL W110 (by decide) (Nat.le_of_ble_eq_true rfl)
      refine Jvm.OwnW.bipush O110 at_119 (r := (6 : Int32)) rfl (q := 121) rfl ?_
      refine Jvm.OwnW.newA' O110 at_121 (ty := .int) rfl (hw _ (List.mem_of_getElem? (i := 5) rfl)) (N := 6) rfl (cap := 6) (by decide) (by decide) (c2 := 2) (s2 := 15) rfl rfl (by decide) (by decide) (q := 123) rfl ?_
      intro a111 T111 h111 g111 N111 O111 X111 V_a111
      have ne_a106_a111 : a106 ≠ a111 := Nat.ne_of_lt (Nat.lt_of_lt_of_le V_a106.lt (Nat.le_of_eq g111.symm))
      have V_a106 := V_a106.ext X111
      have V_a111 : Ar Z h111 a111 .int 6 (lf [(.int (0 : Int32)), (.int (0 : Int32)), (.int (0 : Int32)), (.int (0 : Int32)), (.int (0 : Int32)), (.int (0 : Int32))]) := V_a111.congr (lf_rep 6 _)
      refine Jvm.OwnW.astore O111 at_123 rfl (L' := #[.val (.int p0), .val (.int p1), .val (.int p2), .val (.int (3 : Int32)), .val (.int (0 : Int32)), .val (.int a0b), .val (.int a1b), .val (.int a2b), .val (.int xb), .val (.int yb), .val (.int zb), .val (.ref a106), .val (.ref a111), .unset]) rfl (q := 125) rfl ?_
      refine Jvm.OwnW.aload O111 at_125 rfl rfl (q := 127) rfl ?_
      refine Jvm.OwnW.iconst O111 at_127 (r := (0 : Int32)) rfl (q := 128) rfl ?_
      refine Jvm.OwnW.iconst O111 at_128 (r := (0 : Int32)) rfl (q := 129) rfl ?_
      refine Jvm.OwnW.iasA O111 at_129 V_a111 (i := 0) rfl (by decide) (Or.inr N111) (q := 130) rfl ?_
      intro T112 h112 O112 W112
      have V_a111 : Ar Z h112 a111 .int 6 (lf [(.int (0 : Int32)), (.int (0 : Int32)), (.int (0 : Int32)), (.int (0 : Int32)), (.int (0 : Int32)), (.int (0 : Int32))]) := V_a111.setL W112 (by decide) (Nat.le_of_ble_eq_true rfl)
      have V_a106 := V_a106.other W112 ne_a106_a111
      refine Jvm.OwnW.aload O112 at_130 rfl rfl (q := 132) rfl ?_
      refine Jvm.OwnW.iconst O112 at_132 (r := (1 : Int32)) rfl (q := 133) rfl ?_
      refine Jvm.OwnW.iload O112 at_133 rfl (q := 135) rfl ?_
      refine Jvm.OwnW.iasA O112 at_135 V_a111 (i := 1) rfl (by decide) (Or.inr N111) (q := 136) rfl ?_
      intro T113 h113 O113 W113
      have V_a111 : Ar Z h113 a111 .int 6 (lf [(.int (0 : Int32)), (.int (0 : Int32)), (.int (0 : Int32)), (.int (0 : Int32)), (.int (0 : Int32)), (.int (0 : Int32))]) := V_a111.setL W113 (by decide) (Nat.le_of_ble_eq_true rfl)
      have V_a106 := V_a106.other W113 ne_a106_a111
      refine Jvm.OwnW.aload O113 at_136 rfl rfl (q := 138) rfl ?_
      refine Jvm.OwnW.iconst O113 at_138 (r := (2 : Int32)) rfl (q := 139) rfl ?_
      refine Jvm.OwnW.iload O113 at_139 rfl (q := 141) rfl ?_
      refine Jvm.OwnW.iloadN O113 at_141 rfl (q := 142) rfl ?_
      refine Jvm.OwnW.iadd O113 at_142 (r := (3 : Int32)) (by decide) (q := 143) rfl ?_
      refine Jvm.OwnW.iasA O113 at_143 V_a111 (i := 2) rfl (by decide) (Or.inr N111) (q := 144) rfl ?_
      intro T114 h114 O114 W114
      have V_a111 : Ar Z h114 a111 .int 6 (lf [(.int (0 : Int32)), (.int (0 : Int32)), (.int (3 : Int32)), (.int (0 : Int32)), (.int (0 : Int32)), (.int (0 : Int32))]) := V_a111.setL W114 (by decide) (Nat.le_of_ble_eq_true rfl)
      have V_a106 := V_a106.other W114 ne_a106_a111
      refine Jvm.OwnW.aload O114 at_144 rfl rfl (q := 146) rfl ?_
      refine Jvm.OwnW.iconst O114 at_146 (r := (3 : Int32)) rfl (q := 147) rfl ?_
      refine Jvm.OwnW.iload O114 at_147 rfl (q := 149) rfl ?_
      refine Jvm.OwnW.iloadN O114 at_149 rfl (q := 150) rfl ?_
      refine Jvm.OwnW.iadd O114 at_150 (r := (3 : Int32)) (by decide) (q := 151) rfl ?_
      refine Jvm.OwnW.iconst O114 at_151 (r := (1 : Int32)) rfl (q := 152) rfl ?_
      refine Jvm.OwnW.iadd O114 at_152 (r := (4 : Int32)) (by decide) (q := 153) rfl ?_
      refine Jvm.OwnW.iasA O114 at_153 V_a111 (i := 3) rfl (by decide) (Or.inr N111) (q := 154) rfl ?_
      intro T115 h115 O115 W115
      have V_a111 : Ar Z h115 a111 .int 6 (lf [(.int (0 : Int32)), (.int (0 : Int32)), (.int (3 : Int32)), (.int (4 : Int32)), (.int (0 : Int32)), (.int (0 : Int32))]) := V_a111.setL W115 (by decide) (Nat.le_of_ble_eq_true rfl)
      have V_a106 := V_a106.other W115 ne_a106_a111
      refine Jvm.OwnW.aload O115 at_154 rfl rfl (q := 156) rfl ?_
      refine Jvm.OwnW.iconst O115 at_156 (r := (4 : Int32)) rfl (q := 157) rfl ?_
      refine Jvm.OwnW.iload O115 at_157 rfl (q := 159) rfl ?_
      refine Jvm.OwnW.iconst O115 at_159 (r := (2 : Int32)) rfl (q := 160) rfl ?_
      refine Jvm.OwnW.iloadN O115 at_160 rfl (q := 161) rfl ?_
      refine Jvm.OwnW.imul O115 at_161 (r := (6 : Int32)) (by decide) (q := 162) rfl ?_
      refine Jvm.OwnW.iadd O115 at_162 (r := (6 : Int32)) (by decide) (q := 163) rfl ?_
      refine Jvm.OwnW.iconst O115 at_163 (r := (1 : Int32)) rfl (q := 164) rfl ?_
      refine Jvm.OwnW.iadd O115 at_164 (r := (7 : Int32)) (by decide) (q := 165) rfl ?_
      refine Jvm.OwnW.iasA O115 at_165 V_a111 (i := 4) rfl (by decide) (Or.inr N111) (q := 166) rfl ?_
      intro T116 h116 O116 W116
      have V_a111 : Ar Z h116 a111 .int 6 (lf [(.int (0 : Int32)), (.int (0 : Int32)), (.int (3 : Int32)), (.int (4 : Int32)), (.int (7 : Int32)), (.int (0 : Int32))]) := V_a111.setL W116 (by decide) (Nat.le_of_ble_eq_true rfl)
      have V_a106 := V_a106.other W116 ne_a106_a111
      refine Jvm.OwnW.aload O116 at_166 rfl rfl (q := 168) rfl ?_
      refine Jvm.OwnW.iconst O116 at_168 (r := (5 : Int32)) rfl (q := 169) rfl ?_
      refine Jvm.OwnW.iload O116 at_169 rfl (q := 171) rfl ?_
      refine Jvm.OwnW.iconst O116 at_171 (r := (2 : Int32)) rfl (q := 172) rfl ?_
      refine Jvm.OwnW.iloadN O116 at_172 rfl (q := 173) rfl ?_
      refine Jvm.OwnW.imul O116 at_173 (r := (6 : Int32)) (by decide) (q := 174) rfl ?_
      refine Jvm.OwnW.iadd O116 at_174 (r := (6 : Int32)) (by decide) (q := 175) rfl ?_
      refine Jvm.OwnW.iconst O116 at_175 (r := (2 : Int32)) rfl (q := 176) rfl ?_
      refine Jvm.OwnW.iadd O116 at_176 (r := (8 : Int32)) (by decide) (q := 177) rfl ?_
      refine Jvm.OwnW.iasA O116 at_177 V_a111 (i := 5) rfl (by decide) (Or.inr N111) (q := 178) rfl ?_
      intro T117 h117 O117 W117
      have V_a111 : Ar Z h117 a111 .int 6 (lf [(.int (0 : Int32)), (.int (0 : Int32)), (.int (3 : Int32)), (.int (4 : Int32)), (.int (7 : Int32)), (.int (8 : Int32))]) := V_a111.setL W117 (by decide) (Nat.le_of_ble_eq_true rfl)
      have V_a106 := V_a106.other W117 ne_a106_a111
      refine Jvm.OwnW.newO O117 at_178 (hw _ (List.mem_of_getElem? (i := 6) rfl)) (hw _ (List.mem_of_getElem? (i := 7) rfl)) (hw _ (List.mem_of_getElem? (i := 8) rfl)) (c2 := 3) (s2 := 18) rfl rfl (by decide) (by decide) (q := 181) rfl ?_
      intro a118 T118 h118 g118 N118 O118 X118 E_a118 D118
      have ne_a106_a118 : a106 ≠ a118 := Nat.ne_of_lt (Nat.lt_of_lt_of_le V_a106.lt (Nat.le_of_eq g118.symm))
      have ne_a111_a118 : a111 ≠ a118 := Nat.ne_of_lt (Nat.lt_of_lt_of_le V_a111.lt (Nat.le_of_eq g118.symm))
      have V_a106 := V_a106.ext X118
      have V_a111 := V_a111.ext X118
      have F_data_a118 : Fld Z h118 a118 "com/example/lamina/lamina/table/TextVector" "data" "[B" .null := D118 (Or.inl (hw _ (List.mem_of_getElem? (i := 16) rfl))) (ty := (.array .byte)) (by decide)
      have F_offsets_a118 : Fld Z h118 a118 "com/example/lamina/lamina/table/TextVector" "offsets" "[I" .null := D118 (Or.inl (hw _ (List.mem_of_getElem? (i := 18) rfl))) (ty := (.array .int)) (by decide)
      have F_size_a118 : Fld Z h118 a118 "com/example/lamina/lamina/table/TextVector" "size" "I" (.int (0 : Int32)) := D118 (Or.inl (hw _ (List.mem_of_getElem? (i := 25) rfl))) (ty := .int) (by decide)
      refine Jvm.OwnW.dup O118 at_181 rfl (q := 182) rfl ?_
      refine Jvm.OwnW.callI O118 (y := (⟨"com/example/lamina/lamina/table/TextVector", "<init>", "()V"⟩ : MethodName)) (a := a118) (argsL := []) (rest := [(.ref a118)]) at_182 rfl (hw _ (List.mem_of_getElem? (i := 9) rfl)) (hw _ (List.mem_of_getElem? (i := 10) rfl)) (hw _ (List.mem_of_getElem? (i := 8) rfl)) (hw _ (List.mem_of_getElem? (i := 11) rfl)) (by decide) (rm_i l Z a0 hw a118 h118 E_a118 F_data_a118 F_offsets_a118 F_size_a118) rfl pd_1 rfl (hst := rfl) (W := 1) (Nat.le_of_eq rfl) (by decide) (by decide) (c2 := 5) (s2 := 19) rfl rfl (by decide) (by decide) (allS (Or.inr N118) all0) (q := 185) rfl ?_
      intro v119 T119 h119 O119 K119 q119
      obtain ⟨rfl, b_a118, c_a118, F_data_a118, F_offsets_a118, F_size_a118⟩ := q119
      have V_a106 := V_a106.keep K119 (ninS ne_a106_a118 nin0)
      have V_a111 := V_a111.keep K119 (ninS ne_a111_a118 nin0)
      have E_a118 := E_a118.keep K119
      show Go C _ _ _ _ (T119.setTop (mkF C.m 185 #[.val (.int p0), .val (.int p1), .val (.int p2), .val (.int (3 : Int32)), .val (.int (0 : Int32)), .val (.int a0b), .val (.int a1b), .val (.int a2b), .val (.int xb), .val (.int yb), .val (.int zb), .val (.ref a106), .val (.ref a111), .unset] [(.ref a118)]))
      refine Jvm.OwnW.astore O119 at_185 rfl (L' := #[.val (.int p0), .val (.int p1), .val (.int p2), .val (.int (3 : Int32)), .val (.int (0 : Int32)), .val (.int a0b), .val (.int a1b), .val (.int a2b), .val (.int xb), .val (.int yb), .val (.int zb), .val (.ref a106), .val (.ref a111), .val (.ref a118)]) rfl (q := 187) rfl ?_
      refine Jvm.OwnW.aload O119 at_187 rfl rfl (q := 189) rfl ?_
      refine Jvm.OwnW.aload O119 at_189 rfl rfl (q := 191) rfl ?_
      refine Jvm.OwnW.aload O119 at_191 rfl rfl (q := 193) rfl ?_
      refine Jvm.OwnW.iconst O119 at_193 (r := (5 : Int32)) rfl (q := 194) rfl ?_
      refine Jvm.OwnW.callV O119 (y := (⟨"com/example/lamina/lamina/table/TextVector", "reset", "([B[II)V"⟩ : MethodName)) (z := (⟨"com/example/lamina/lamina/table/TextVector", "reset", "([B[II)V"⟩ : MethodName)) (a := a118) (argsL := [(.ref a106), (.ref a111), (.int (5 : Int32))]) (rest := []) at_194 (hw _ (List.mem_of_getElem? (i := 19) rfl)) (hw _ (List.mem_of_getElem? (i := 20) rfl)) (hw _ (List.mem_of_getElem? (i := 22) rfl)) rfl (hw _ (List.mem_of_getElem? (i := 21) rfl)) (hw _ (List.mem_of_getElem? (i := 8) rfl)) (hw _ (List.mem_of_getElem? (i := 23) rfl)) (by decide) (rm_r l Z a0 hw a118 a106 a111 (5 : Int32) _ _ _ h119 E_a118 F_data_a118 F_offsets_a118 F_size_a118) E_a118 rfl pd_2 rfl (hst := rfl) (W := 0) (Nat.le_of_eq rfl) (by decide) (by decide) (c2 := 5) (s2 := 19) rfl rfl (by decide) (by decide) (allS (Or.inr N118) all0) (q := 197) rfl ?_
      intro v120 T120 h120 O120 K120 q120
      obtain ⟨rfl, F_data_a118, F_offsets_a118, F_size_a118⟩ := q120
      have V_a106 := V_a106.keep K120 (ninS ne_a106_a118 nin0)
      have V_a111 := V_a111.keep K120 (ninS ne_a111_a118 nin0)
      have E_a118 := E_a118.keep K120
      show Go C _ _ _ _ (T120.setTop (mkF C.m 197 #[.val (.int p0), .val (.int p1), .val (.int p2), .val (.int (3 : Int32)), .val (.int (0 : Int32)), .val (.int a0b), .val (.int a1b), .val (.int a2b), .val (.int xb), .val (.int yb), .val (.int zb), .val (.ref a106), .val (.ref a111), .val (.ref a118)] []))
      refine Jvm.OwnW.aload O120 at_197 rfl rfl (q := 199) rfl ?_
      refine Jvm.OwnW.iconst O120 at_199 (r := (1 : Int32)) rfl (q := 200) rfl ?_
      refine Jvm.OwnW.callV0 O120 (y := (⟨"com/example/lamina/lamina/table/TextVector", "hashAt", "(I)I"⟩ : MethodName)) (z := (⟨"com/example/lamina/lamina/table/TextVector", "hashAt", "(I)I"⟩ : MethodName)) (a := a118) (argsL := [(.int (1 : Int32))]) (rest := []) at_200 (hw _ (List.mem_of_getElem? (i := 26) rfl)) (hw _ (List.mem_of_getElem? (i := 27) rfl)) (hw _ (List.mem_of_getElem? (i := 29) rfl)) rfl (hw _ (List.mem_of_getElem? (i := 28) rfl)) (hw _ (List.mem_of_getElem? (i := 8) rfl)) (hw _ (List.mem_of_getElem? (i := 30) rfl)) (by decide) (rm_h l Z a0 hw a118 (1 : Int32) a106 a111 9 6 1 0 3 (fun j => ([a0b, a1b, a2b, yb, a0b, a1b, a2b, zb, (0 : Int32)] : List Int32).getD j 0) (fun j => ([(0 : Int32), (0 : Int32), (3 : Int32), (4 : Int32), (7 : Int32), (8 : Int32)] : List Int32).getD j 0) h120 E_a118 F_data_a118 F_offsets_a118 (V_a106.congr (lf_int [a0b, a1b, a2b, yb, a0b, a1b, a2b, zb, (0 : Int32)])) (V_a111.congr (lf_int [(0 : Int32), (0 : Int32), (3 : Int32), (4 : Int32), (7 : Int32), (8 : Int32)])) rfl (by decide) rfl rfl (by decide) (by decide)) E_a118 rfl pd_3 rfl (hst := rfl) (W := 0) (Nat.le_of_eq rfl) (by decide) (by decide) (c2 := 5) (s2 := 19) rfl rfl (by decide) (by decide) rfl rfl (q := 203) rfl ?_
      intro v121 T121 O121 q121
      obtain rfl := q121
      show Go C _ _ _ _ (T121.setTop (mkF C.m 203 #[.val (.int p0), .val (.int p1), .val (.int p2), .val (.int (3 : Int32)), .val (.int (0 : Int32)), .val (.int a0b), .val (.int a1b), .val (.int a2b), .val (.int xb), .val (.int yb), .val (.int zb), .val (.ref a106), .val (.ref a111), .val (.ref a118)] [(.int (own_hash (fun j => ([a0b, a1b, a2b, yb, a0b, a1b, a2b, zb, (0 : Int32)] : List Int32).getD j 0) 0 (3 - 0) 1))]))
      refine Jvm.OwnW.aload O121 at_203 rfl rfl (q := 205) rfl ?_
      refine Jvm.OwnW.iconst O121 at_205 (r := (3 : Int32)) rfl (q := 206) rfl ?_
      refine Jvm.OwnW.callV0 O121 (y := (⟨"com/example/lamina/lamina/table/TextVector", "hashAt", "(I)I"⟩ : MethodName)) (z := (⟨"com/example/lamina/lamina/table/TextVector", "hashAt", "(I)I"⟩ : MethodName)) (a := a118) (argsL := [(.int (3 : Int32))]) (rest := [(.int (own_hash (fun j => ([a0b, a1b, a2b, yb, a0b, a1b, a2b, zb, (0 : Int32)] : List Int32).getD j 0) 0 (3 - 0) 1))]) at_206 (hw _ (List.mem_of_getElem? (i := 26) rfl)) (hw _ (List.mem_of_getElem? (i := 27) rfl)) (hw _ (List.mem_of_getElem? (i := 29) rfl)) rfl (hw _ (List.mem_of_getElem? (i := 28) rfl)) (hw _ (List.mem_of_getElem? (i := 8) rfl)) (hw _ (List.mem_of_getElem? (i := 30) rfl)) (by decide) (rm_h l Z a0 hw a118 (3 : Int32) a106 a111 9 6 3 4 7 (fun j => ([a0b, a1b, a2b, yb, a0b, a1b, a2b, zb, (0 : Int32)] : List Int32).getD j 0) (fun j => ([(0 : Int32), (0 : Int32), (3 : Int32), (4 : Int32), (7 : Int32), (8 : Int32)] : List Int32).getD j 0) h120 E_a118 F_data_a118 F_offsets_a118 (V_a106.congr (lf_int [a0b, a1b, a2b, yb, a0b, a1b, a2b, zb, (0 : Int32)])) (V_a111.congr (lf_int [(0 : Int32), (0 : Int32), (3 : Int32), (4 : Int32), (7 : Int32), (8 : Int32)])) rfl (by decide) rfl rfl (by decide) (by decide)) E_a118 rfl pd_3 rfl (hst := rfl) (W := 1) (Nat.le_of_eq rfl) (by decide) (by decide) (c2 := 5) (s2 := 19) rfl rfl (by decide) (by decide) rfl rfl (q := 209) rfl ?_
      intro v122 T122 O122 q122
      obtain rfl := q122
      show Go C _ _ _ _ (T122.setTop (mkF C.m 209 #[.val (.int p0), .val (.int p1), .val (.int p2), .val (.int (3 : Int32)), .val (.int (0 : Int32)), .val (.int a0b), .val (.int a1b), .val (.int a2b), .val (.int xb), .val (.int yb), .val (.int zb), .val (.ref a106), .val (.ref a111), .val (.ref a118)] [(.int (own_hash (fun j => ([a0b, a1b, a2b, yb, a0b, a1b, a2b, zb, (0 : Int32)] : List Int32).getD j 0) 4 (7 - 4) 1)), (.int (own_hash (fun j => ([a0b, a1b, a2b, yb, a0b, a1b, a2b, zb, (0 : Int32)] : List Int32).getD j 0) 0 (3 - 0) 1))]))
      refine Jvm.OwnW.icmpNo O122 at_209 (teq (show (own_hash (fun j => ([a0b, a1b, a2b, yb, a0b, a1b, a2b, zb, (0 : Int32)] : List Int32).getD j 0) 0 (3 - 0) 1) = (own_hash (fun j => ([a0b, a1b, a2b, yb, a0b, a1b, a2b, zb, (0 : Int32)] : List Int32).getD j 0) 4 (7 - 4) 1) from rfl)).2 (q := 212) rfl ?_
      refine Jvm.OwnW.iconst O122 at_212 (r := (1 : Int32)) rfl (q := 213) rfl ?_
      refine Jvm.OwnW.goto O122 at_213 (by decide) (q := 217) rfl ?_
      exact Jvm.OwnW.retB O122 at_217 rfl (Or.inr rfl) (by decide) (by decide) rfl
    · skip
      refine Jvm.OwnW.bipush O at_47 (r := (9 : Int32)) rfl (q := 49) rfl ?_
      refine Jvm.OwnW.newA' O at_49 (ty := .byte) rfl (hw _ (List.mem_of_getElem? (i := 0) rfl)) (N := 9) rfl (cap := 9) (by decide) (by decide) (c2 := 1) (s2 := 9) rfl rfl (by decide) (by decide) (q := 51) rfl ?_
      intro a123 T123 h123 g123 N123 O123 X123 V_a123
      have V_a123 : Ar Z h123 a123 .byte 9 (lf [(.int (0 : Int32)), (.int (0 : Int32)), (.int (0 : Int32)), (.int (0 : Int32)), (.int (0 : Int32)), (.int (0 : Int32)), (.int (0 : Int32)), (.int (0 : Int32)), (.int (0 : Int32))]) := V_a123.congr (lf_rep 9 _)
      refine Jvm.OwnW.astore O123 at_51 rfl (L' := #[.val (.int p0), .val (.int p1), .val (.int p2), .val (.int (3 : Int32)), .val (.int (1 : Int32)), .val (.int a0b), .val (.int a1b), .val (.int a2b), .val (.int xb), .val (.int yb), .val (.int zb), .val (.ref a123), .unset, .unset]) rfl (q := 53) rfl ?_
      refine Jvm.OwnW.iload O123 at_53 rfl (q := 55) rfl ?_
      refine Jvm.OwnW.iconst O123 at_55 (r := (1 : Int32)) rfl (q := 56) rfl ?_
      refine Jvm.OwnW.icmpNo O123 at_56 (teq (show (1 : Int32) = (1 : Int32) from (by decide))).2 (q := 59) rfl ?_
      refine Jvm.OwnW.aload O123 at_59 rfl rfl (q := 61) rfl ?_
      refine Jvm.OwnW.iconst O123 at_61 (r := (0 : Int32)) rfl (q := 62) rfl ?_
      refine Jvm.OwnW.iload O123 at_62 rfl (q := 64) rfl ?_
      refine Jvm.OwnW.basA O123 at_64 V_a123 (i := 0) rfl (by decide) (Or.inr N123) (y := xb) bxb (q := 65) rfl ?_
      intro T124 h124 O124 W124
      have V_a123 : Ar Z h124 a123 .byte 9 (lf [(.int xb), (.int (0 : Int32)), (.int (0 : Int32)), (.int (0 : Int32)), (.int (0 : Int32)), (.int (0 : Int32)), (.int (0 : Int32)), (.int (0 : Int32)), (.int (0 : Int32))]) := V_a123.setL W124 (by decide) (Nat.le_of_ble_eq_true rfl)
      refine Jvm.OwnW.aload O124 at_65 rfl rfl (q := 67) rfl ?_
      refine Jvm.OwnW.iload O124 at_67 rfl (q := 69) rfl ?_
      refine Jvm.OwnW.iloadN O124 at_69 rfl (q := 70) rfl ?_
      refine Jvm.OwnW.iload O124 at_70 rfl (q := 72) rfl ?_
      refine Jvm.OwnW.iload O124 at_72 rfl (q := 74) rfl ?_
      refine Jvm.OwnW.iload O124 at_74 rfl (q := 76) rfl ?_
      refine Jvm.OwnW.callS O124 (y := (⟨"com/example/lamina/lamina/table/TextVectorHashAtPinLaw", "put", "([BIIBBB)V"⟩ : MethodName)) (argsL := [(.ref a123), (.int (1 : Int32)), (.int (3 : Int32)), (.int a0b), (.int a1b), (.int a2b)]) (rest := []) at_76 (hw _ (List.mem_of_getElem? (i := 1) rfl)) (hw _ (List.mem_of_getElem? (i := 2) rfl)) (hw _ (List.mem_of_getElem? (i := 3) rfl)) (hw _ (List.mem_of_getElem? (i := 4) rfl)) (by decide) (rm_p3 l Z a0 hw a123 (1 : Int32) a0b a1b a2b 1 _ h124 V_a123 rfl rfl (by decide) ba0b ba1b ba2b) rfl pd_0 rfl (hst := rfl) (W := 0) (Nat.le_of_eq rfl) (by decide) (by decide) (c2 := 1) (s2 := 9) rfl rfl (by decide) (by decide) (allS (Or.inr N123) all0) (q := 79) rfl ?_
      intro v125 T125 h125 O125 K125 q125
      obtain ⟨rfl, V_a123⟩ := q125
      have V_a123 : Ar Z h125 a123 .byte 9 (lf [(.int xb), (.int a0b), (.int a1b), (.int a2b), (.int (0 : Int32)), (.int (0 : Int32)), (.int (0 : Int32)), (.int (0 : Int32)), (.int (0 : Int32))]) := V_a123
      show Go C _ _ _ _ (T125.setTop (mkF C.m 79 #[.val (.int p0), .val (.int p1), .val (.int p2), .val (.int (3 : Int32)), .val (.int (1 : Int32)), .val (.int a0b), .val (.int a1b), .val (.int a2b), .val (.int xb), .val (.int yb), .val (.int zb), .val (.ref a123), .unset, .unset] []))
      refine Jvm.OwnW.aload O125 at_79 rfl rfl (q := 81) rfl ?_
      refine Jvm.OwnW.iload O125 at_81 rfl (q := 83) rfl ?_
      refine Jvm.OwnW.iloadN O125 at_83 rfl (q := 84) rfl ?_
      refine Jvm.OwnW.iadd O125 at_84 (r := (4 : Int32)) (by decide) (q := 85) rfl ?_
      refine Jvm.OwnW.iload O125 at_85 rfl (q := 87) rfl ?_
      refine Jvm.OwnW.basA O125 at_87 V_a123 (i := 4) rfl (by decide) (Or.inr N123) (y := yb) byb (q := 88) rfl ?_
      intro T126 h126 O126 W126
      have V_a123 : Ar Z h126 a123 .byte 9 (lf [(.int xb), (.int a0b), (.int a1b), (.int a2b), (.int yb), (.int (0 : Int32)), (.int (0 : Int32)), (.int (0 : Int32)), (.int (0 : Int32))]) := V_a123.setL W126 (by decide) (Nat.le_of_ble_eq_true rfl)
      refine Jvm.OwnW.aload O126 at_88 rfl rfl (q := 90) rfl ?_
      refine Jvm.OwnW.iload O126 at_90 rfl (q := 92) rfl ?_
      refine Jvm.OwnW.iloadN O126 at_92 rfl (q := 93) rfl ?_
      refine Jvm.OwnW.iadd O126 at_93 (r := (4 : Int32)) (by decide) (q := 94) rfl ?_
      refine Jvm.OwnW.iconst O126 at_94 (r := (1 : Int32)) rfl (q := 95) rfl ?_
      refine Jvm.OwnW.iadd O126 at_95 (r := (5 : Int32)) (by decide) (q := 96) rfl ?_
      refine Jvm.OwnW.iloadN O126 at_96 rfl (q := 97) rfl ?_
      refine Jvm.OwnW.iload O126 at_97 rfl (q := 99) rfl ?_
      refine Jvm.OwnW.iload O126 at_99 rfl (q := 101) rfl ?_
      refine Jvm.OwnW.iload O126 at_101 rfl (q := 103) rfl ?_
      refine Jvm.OwnW.callS O126 (y := (⟨"com/example/lamina/lamina/table/TextVectorHashAtPinLaw", "put", "([BIIBBB)V"⟩ : MethodName)) (argsL := [(.ref a123), (.int (5 : Int32)), (.int (3 : Int32)), (.int a0b), (.int a1b), (.int a2b)]) (rest := []) at_103 (hw _ (List.mem_of_getElem? (i := 1) rfl)) (hw _ (List.mem_of_getElem? (i := 2) rfl)) (hw _ (List.mem_of_getElem? (i := 3) rfl)) (hw _ (List.mem_of_getElem? (i := 4) rfl)) (by decide) (rm_p3 l Z a0 hw a123 (5 : Int32) a0b a1b a2b 5 _ h126 V_a123 rfl rfl (by decide) ba0b ba1b ba2b) rfl pd_0 rfl (hst := rfl) (W := 0) (Nat.le_of_eq rfl) (by decide) (by decide) (c2 := 1) (s2 := 9) rfl rfl (by decide) (by decide) (allS (Or.inr N123) all0) (q := 106) rfl ?_
      intro v127 T127 h127 O127 K127 q127
      obtain ⟨rfl, V_a123⟩ := q127
      have V_a123 : Ar Z h127 a123 .byte 9 (lf [(.int xb), (.int a0b), (.int a1b), (.int a2b), (.int yb), (.int a0b), (.int a1b), (.int a2b), (.int (0 : Int32))]) := V_a123
      show Go C _ _ _ _ (T127.setTop (mkF C.m 106 #[.val (.int p0), .val (.int p1), .val (.int p2), .val (.int (3 : Int32)), .val (.int (1 : Int32)), .val (.int a0b), .val (.int a1b), .val (.int a2b), .val (.int xb), .val (.int yb), .val (.int zb), .val (.ref a123), .unset, .unset] []))
      refine Jvm.OwnW.aload O127 at_106 rfl rfl (q := 108) rfl ?_
      refine Jvm.OwnW.iload O127 at_108 rfl (q := 110) rfl ?_
      refine Jvm.OwnW.iconst O127 at_110 (r := (2 : Int32)) rfl (q := 111) rfl ?_
      refine Jvm.OwnW.iloadN O127 at_111 rfl (q := 112) rfl ?_
      refine Jvm.OwnW.imul O127 at_112 (r := (6 : Int32)) (by decide) (q := 113) rfl ?_
      refine Jvm.OwnW.iadd O127 at_113 (r := (7 : Int32)) (by decide) (q := 114) rfl ?_
      refine Jvm.OwnW.iconst O127 at_114 (r := (1 : Int32)) rfl (q := 115) rfl ?_
      refine Jvm.OwnW.iadd O127 at_115 (r := (8 : Int32)) (by decide) (q := 116) rfl ?_
      refine Jvm.OwnW.iload O127 at_116 rfl (q := 118) rfl ?_
      refine Jvm.OwnW.basA O127 at_118 V_a123 (i := 8) rfl (by decide) (Or.inr N123) (y := zb) bzb (q := 119) rfl ?_
      intro T128 h128 O128 W128
      have V_a123 : Ar Z h128 a123 .byte 9 (lf [(.int xb), (.int a0b), (.int a1b), (.int a2b), (.int yb), (.int a0b), (.int a1b), (.int a2b), (.int zb)]) := V_a123.setL W128 (by decide) (Nat.le_of_ble_eq_true rfl)
      refine Jvm.OwnW.bipush O128 at_119 (r := (6 : Int32)) rfl (q := 121) rfl ?_
      refine Jvm.OwnW.newA' O128 at_121 (ty := .int) rfl (hw _ (List.mem_of_getElem? (i := 5) rfl)) (N := 6) rfl (cap := 6) (by decide) (by decide) (c2 := 2) (s2 := 15) rfl rfl (by decide) (by decide) (q := 123) rfl ?_
      intro a129 T129 h129 g129 N129 O129 X129 V_a129
      have ne_a123_a129 : a123 ≠ a129 := Nat.ne_of_lt (Nat.lt_of_lt_of_le V_a123.lt (Nat.le_of_eq g129.symm))
      have V_a123 := V_a123.ext X129
      have V_a129 : Ar Z h129 a129 .int 6 (lf [(.int (0 : Int32)), (.int (0 : Int32)), (.int (0 : Int32)), (.int (0 : Int32)), (.int (0 : Int32)), (.int (0 : Int32))]) := V_a129.congr (lf_rep 6 _)
      refine Jvm.OwnW.astore O129 at_123 rfl (L' := #[.val (.int p0), .val (.int p1), .val (.int p2), .val (.int (3 : Int32)), .val (.int (1 : Int32)), .val (.int a0b), .val (.int a1b), .val (.int a2b), .val (.int xb), .val (.int yb), .val (.int zb), .val (.ref a123), .val (.ref a129), .unset]) rfl (q := 125) rfl ?_
      refine Jvm.OwnW.aload O129 at_125 rfl rfl (q := 127) rfl ?_
      refine Jvm.OwnW.iconst O129 at_127 (r := (0 : Int32)) rfl (q := 128) rfl ?_
      refine Jvm.OwnW.iconst O129 at_128 (r := (0 : Int32)) rfl (q := 129) rfl ?_
      refine Jvm.OwnW.iasA O129 at_129 V_a129 (i := 0) rfl (by decide) (Or.inr N129) (q := 130) rfl ?_
      intro T130 h130 O130 W130
      have V_a129 : Ar Z h130 a129 .int 6 (lf [(.int (0 : Int32)), (.int (0 : Int32)), (.int (0 : Int32)), (.int (0 : Int32)), (.int (0 : Int32)), (.int (0 : Int32))]) := V_a129.setL W130 (by decide) (Nat.le_of_ble_eq_true rfl)
      have V_a123 := V_a123.other W130 ne_a123_a129
      refine Jvm.OwnW.aload O130 at_130 rfl rfl (q := 132) rfl ?_
      refine Jvm.OwnW.iconst O130 at_132 (r := (1 : Int32)) rfl (q := 133) rfl ?_
      refine Jvm.OwnW.iload O130 at_133 rfl (q := 135) rfl ?_
      refine Jvm.OwnW.iasA O130 at_135 V_a129 (i := 1) rfl (by decide) (Or.inr N129) (q := 136) rfl ?_
      intro T131 h131 O131 W131
      have V_a129 : Ar Z h131 a129 .int 6 (lf [(.int (0 : Int32)), (.int (1 : Int32)), (.int (0 : Int32)), (.int (0 : Int32)), (.int (0 : Int32)), (.int (0 : Int32))]) := V_a129.setL W131 (by decide) (Nat.le_of_ble_eq_true rfl)
      have V_a123 := V_a123.other W131 ne_a123_a129
      refine Jvm.OwnW.aload O131 at_136 rfl rfl (q := 138) rfl ?_
      refine Jvm.OwnW.iconst O131 at_138 (r := (2 : Int32)) rfl (q := 139) rfl ?_
      refine Jvm.OwnW.iload O131 at_139 rfl (q := 141) rfl ?_
      refine Jvm.OwnW.iloadN O131 at_141 rfl (q := 142) rfl ?_
      refine Jvm.OwnW.iadd O131 at_142 (r := (4 : Int32)) (by decide) (q := 143) rfl ?_
      refine Jvm.OwnW.iasA O131 at_143 V_a129 (i := 2) rfl (by decide) (Or.inr N129) (q := 144) rfl ?_
      intro T132 h132 O132 W132
      have V_a129 : Ar Z h132 a129 .int 6 (lf [(.int (0 : Int32)), (.int (1 : Int32)), (.int (4 : Int32)), (.int (0 : Int32)), (.int (0 : Int32)), (.int (0 : Int32))]) := V_a129.setL W132 (by decide) (Nat.le_of_ble_eq_true rfl)
      have V_a123 := V_a123.other W132 ne_a123_a129
      refine Jvm.OwnW.aload O132 at_144 rfl rfl (q := 146) rfl ?_
      refine Jvm.OwnW.iconst O132 at_146 (r := (3 : Int32)) rfl (q := 147) rfl ?_
      refine Jvm.OwnW.iload O132 at_147 rfl (q := 149) rfl ?_
      refine Jvm.OwnW.iloadN O132 at_149 rfl (q := 150) rfl ?_
      refine Jvm.OwnW.iadd O132 at_150 (r := (4 : Int32)) (by decide) (q := 151) rfl ?_
      refine Jvm.OwnW.iconst O132 at_151 (r := (1 : Int32)) rfl (q := 152) rfl ?_
      refine Jvm.OwnW.iadd O132 at_152 (r := (5 : Int32)) (by decide) (q := 153) rfl ?_
      refine Jvm.OwnW.iasA O132 at_153 V_a129 (i := 3) rfl (by decide) (Or.inr N129) (q := 154) rfl ?_
      intro T133 h133 O133 W133
      have V_a129 : Ar Z h133 a129 .int 6 (lf [(.int (0 : Int32)), (.int (1 : Int32)), (.int (4 : Int32)), (.int (5 : Int32)), (.int (0 : Int32)), (.int (0 : Int32))]) := V_a129.setL W133 (by decide) (Nat.le_of_ble_eq_true rfl)
      have V_a123 := V_a123.other W133 ne_a123_a129
      refine Jvm.OwnW.aload O133 at_154 rfl rfl (q := 156) rfl ?_
      refine Jvm.OwnW.iconst O133 at_156 (r := (4 : Int32)) rfl (q := 157) rfl ?_
      refine Jvm.OwnW.iload O133 at_157 rfl (q := 159) rfl ?_
      refine Jvm.OwnW.iconst O133 at_159 (r := (2 : Int32)) rfl (q := 160) rfl ?_
      refine Jvm.OwnW.iloadN O133 at_160 rfl (q := 161) rfl ?_
      refine Jvm.OwnW.imul O133 at_161 (r := (6 : Int32)) (by decide) (q := 162) rfl ?_
      refine Jvm.OwnW.iadd O133 at_162 (r := (7 : Int32)) (by decide) (q := 163) rfl ?_
      refine Jvm.OwnW.iconst O133 at_163 (r := (1 : Int32)) rfl (q := 164) rfl ?_
      refine Jvm.OwnW.iadd O133 at_164 (r := (8 : Int32)) (by decide) (q := 165) rfl ?_
      refine Jvm.OwnW.iasA O133 at_165 V_a129 (i := 4) rfl (by decide) (Or.inr N129) (q := 166) rfl ?_
      intro T134 h134 O134 W134
      have V_a129 : Ar Z h134 a129 .int 6 (lf [(.int (0 : Int32)), (.int (1 : Int32)), (.int (4 : Int32)), (.int (5 : Int32)), (.int (8 : Int32)), (.int (0 : Int32))]) := V_a129.setL W134 (by decide) (Nat.le_of_ble_eq_true rfl)
      have V_a123 := V_a123.other W134 ne_a123_a129
      refine Jvm.OwnW.aload O134 at_166 rfl rfl (q := 168) rfl ?_
      refine Jvm.OwnW.iconst O134 at_168 (r := (5 : Int32)) rfl (q := 169) rfl ?_
      refine Jvm.OwnW.iload O134 at_169 rfl (q := 171) rfl ?_
      refine Jvm.OwnW.iconst O134 at_171 (r := (2 : Int32)) rfl (q := 172) rfl ?_
      refine Jvm.OwnW.iloadN O134 at_172 rfl (q := 173) rfl ?_
      refine Jvm.OwnW.imul O134 at_173 (r := (6 : Int32)) (by decide) (q := 174) rfl ?_
      refine Jvm.OwnW.iadd O134 at_174 (r := (7 : Int32)) (by decide) (q := 175) rfl ?_
      refine Jvm.OwnW.iconst O134 at_175 (r := (2 : Int32)) rfl (q := 176) rfl ?_
      refine Jvm.OwnW.iadd O134 at_176 (r := (9 : Int32)) (by decide) (q := 177) rfl ?_
      refine Jvm.OwnW.iasA O134 at_177 V_a129 (i := 5) rfl (by decide) (Or.inr N129) (q := 178) rfl ?_
      intro T135 h135 O135 W135
      have V_a129 : Ar Z h135 a129 .int 6 (lf [(.int (0 : Int32)), (.int (1 : Int32)), (.int (4 : Int32)), (.int (5 : Int32)), (.int (8 : Int32)), (.int (9 : Int32))]) := V_a129.setL W135 (by decide) (Nat.le_of_ble_eq_true rfl)
      have V_a123 := V_a123.other W135 ne_a123_a129
      refine Jvm.OwnW.newO O135 at_178 (hw _ (List.mem_of_getElem? (i := 6) rfl)) (hw _ (List.mem_of_getElem? (i := 7) rfl)) (hw _ (List.mem_of_getElem? (i := 8) rfl)) (c2 := 3) (s2 := 18) rfl rfl (by decide) (by decide) (q := 181) rfl ?_
      intro a136 T136 h136 g136 N136 O136 X136 E_a136 D136
      have ne_a123_a136 : a123 ≠ a136 := Nat.ne_of_lt (Nat.lt_of_lt_of_le V_a123.lt (Nat.le_of_eq g136.symm))
      have ne_a129_a136 : a129 ≠ a136 := Nat.ne_of_lt (Nat.lt_of_lt_of_le V_a129.lt (Nat.le_of_eq g136.symm))
      have V_a123 := V_a123.ext X136
      have V_a129 := V_a129.ext X136
      have F_data_a136 : Fld Z h136 a136 "com/example/lamina/lamina/table/TextVector" "data" "[B" .null := D136 (Or.inl (hw _ (List.mem_of_getElem? (i := 16) rfl))) (ty := (.array .byte)) (by decide)
      have F_offsets_a136 : Fld Z h136 a136 "com/example/lamina/lamina/table/TextVector" "offsets" "[I" .null := D136 (Or.inl (hw _ (List.mem_of_getElem? (i := 18) rfl))) (ty := (.array .int)) (by decide)
      have F_size_a136 : Fld Z h136 a136 "com/example/lamina/lamina/table/TextVector" "size" "I" (.int (0 : Int32)) := D136 (Or.inl (hw _ (List.mem_of_getElem? (i := 25) rfl))) (ty := .int) (by decide)
      refine Jvm.OwnW.dup O136 at_181 rfl (q := 182) rfl ?_
      refine Jvm.OwnW.callI O136 (y := (⟨"com/example/lamina/lamina/table/TextVector", "<init>", "()V"⟩ : MethodName)) (a := a136) (argsL := []) (rest := [(.ref a136)]) at_182 rfl (hw _ (List.mem_of_getElem? (i := 9) rfl)) (hw _ (List.mem_of_getElem? (i := 10) rfl)) (hw _ (List.mem_of_getElem? (i := 8) rfl)) (hw _ (List.mem_of_getElem? (i := 11) rfl)) (by decide) (rm_i l Z a0 hw a136 h136 E_a136 F_data_a136 F_offsets_a136 F_size_a136) rfl pd_1 rfl (hst := rfl) (W := 1) (Nat.le_of_eq rfl) (by decide) (by decide) (c2 := 5) (s2 := 19) rfl rfl (by decide) (by decide) (allS (Or.inr N136) all0) (q := 185) rfl ?_
      intro v137 T137 h137 O137 K137 q137
      obtain ⟨rfl, b_a136, c_a136, F_data_a136, F_offsets_a136, F_size_a136⟩ := q137
      have V_a123 := V_a123.keep K137 (ninS ne_a123_a136 nin0)
      have V_a129 := V_a129.keep K137 (ninS ne_a129_a136 nin0)
      have E_a136 := E_a136.keep K137
      show Go C _ _ _ _ (T137.setTop (mkF C.m 185 #[.val (.int p0), .val (.int p1), .val (.int p2), .val (.int (3 : Int32)), .val (.int (1 : Int32)), .val (.int a0b), .val (.int a1b), .val (.int a2b), .val (.int xb), .val (.int yb), .val (.int zb), .val (.ref a123), .val (.ref a129), .unset] [(.ref a136)]))
      refine Jvm.OwnW.astore O137 at_185 rfl (L' := #[.val (.int p0), .val (.int p1), .val (.int p2), .val (.int (3 : Int32)), .val (.int (1 : Int32)), .val (.int a0b), .val (.int a1b), .val (.int a2b), .val (.int xb), .val (.int yb), .val (.int zb), .val (.ref a123), .val (.ref a129), .val (.ref a136)]) rfl (q := 187) rfl ?_
      refine Jvm.OwnW.aload O137 at_187 rfl rfl (q := 189) rfl ?_
      refine Jvm.OwnW.aload O137 at_189 rfl rfl (q := 191) rfl ?_
      refine Jvm.OwnW.aload O137 at_191 rfl rfl (q := 193) rfl ?_
      refine Jvm.OwnW.iconst O137 at_193 (r := (5 : Int32)) rfl (q := 194) rfl ?_
      refine Jvm.OwnW.callV O137 (y := (⟨"com/example/lamina/lamina/table/TextVector", "reset", "([B[II)V"⟩ : MethodName)) (z := (⟨"com/example/lamina/lamina/table/TextVector", "reset", "([B[II)V"⟩ : MethodName)) (a := a136) (argsL := [(.ref a123), (.ref a129), (.int (5 : Int32))]) (rest := []) at_194 (hw _ (List.mem_of_getElem? (i := 19) rfl)) (hw _ (List.mem_of_getElem? (i := 20) rfl)) (hw _ (List.mem_of_getElem? (i := 22) rfl)) rfl (hw _ (List.mem_of_getElem? (i := 21) rfl)) (hw _ (List.mem_of_getElem? (i := 8) rfl)) (hw _ (List.mem_of_getElem? (i := 23) rfl)) (by decide) (rm_r l Z a0 hw a136 a123 a129 (5 : Int32) _ _ _ h137 E_a136 F_data_a136 F_offsets_a136 F_size_a136) E_a136 rfl pd_2 rfl (hst := rfl) (W := 0) (Nat.le_of_eq rfl) (by decide) (by decide) (c2 := 5) (s2 := 19) rfl rfl (by decide) (by decide) (allS (Or.inr N136) all0) (q := 197) rfl ?_
      intro v138 T138 h138 O138 K138 q138
      obtain ⟨rfl, F_data_a136, F_offsets_a136, F_size_a136⟩ := q138
      have V_a123 := V_a123.keep K138 (ninS ne_a123_a136 nin0)
      have V_a129 := V_a129.keep K138 (ninS ne_a129_a136 nin0)
      have E_a136 := E_a136.keep K138
      show Go C _ _ _ _ (T138.setTop (mkF C.m 197 #[.val (.int p0), .val (.int p1), .val (.int p2), .val (.int (3 : Int32)), .val (.int (1 : Int32)), .val (.int a0b), .val (.int a1b), .val (.int a2b), .val (.int xb), .val (.int yb), .val (.int zb), .val (.ref a123), .val (.ref a129), .val (.ref a136)] []))
      refine Jvm.OwnW.aload O138 at_197 rfl rfl (q := 199) rfl ?_
      refine Jvm.OwnW.iconst O138 at_199 (r := (1 : Int32)) rfl (q := 200) rfl ?_
      refine Jvm.OwnW.callV0 O138 (y := (⟨"com/example/lamina/lamina/table/TextVector", "hashAt", "(I)I"⟩ : MethodName)) (z := (⟨"com/example/lamina/lamina/table/TextVector", "hashAt", "(I)I"⟩ : MethodName)) (a := a136) (argsL := [(.int (1 : Int32))]) (rest := []) at_200 (hw _ (List.mem_of_getElem? (i := 26) rfl)) (hw _ (List.mem_of_getElem? (i := 27) rfl)) (hw _ (List.mem_of_getElem? (i := 29) rfl)) rfl (hw _ (List.mem_of_getElem? (i := 28) rfl)) (hw _ (List.mem_of_getElem? (i := 8) rfl)) (hw _ (List.mem_of_getElem? (i := 30) rfl)) (by decide) (rm_h l Z a0 hw a136 (1 : Int32) a123 a129 9 6 1 1 4 (fun j => ([xb, a0b, a1b, a2b, yb, a0b, a1b, a2b, zb] : List Int32).getD j 0) (fun j => ([(0 : Int32), (1 : Int32), (4 : Int32), (5 : Int32), (8 : Int32), (9 : Int32)] : List Int32).getD j 0) h138 E_a136 F_data_a136 F_offsets_a136 (V_a123.congr (lf_int [xb, a0b, a1b, a2b, yb, a0b, a1b, a2b, zb])) (V_a129.congr (lf_int [(0 : Int32), (1 : Int32), (4 : Int32), (5 : Int32), (8 : Int32), (9 : Int32)])) rfl (by decide) rfl rfl (by decide) (by decide)) E_a136 rfl pd_3 rfl (hst := rfl) (W := 0) (Nat.le_of_eq rfl) (by decide) (by decide) (c2 := 5) (s2 := 19) rfl rfl (by decide) (by decide) rfl rfl (q := 203) rfl ?_
      intro v139 T139 O139 q139
      obtain rfl := q139
      show Go C _ _ _ _ (T139.setTop (mkF C.m 203 #[.val (.int p0), .val (.int p1), .val (.int p2), .val (.int (3 : Int32)), .val (.int (1 : Int32)), .val (.int a0b), .val (.int a1b), .val (.int a2b), .val (.int xb), .val (.int yb), .val (.int zb), .val (.ref a123), .val (.ref a129), .val (.ref a136)] [(.int (own_hash (fun j => ([xb, a0b, a1b, a2b, yb, a0b, a1b, a2b, zb] : List Int32).getD j 0) 1 (4 - 1) 1))]))
      refine Jvm.OwnW.aload O139 at_203 rfl rfl (q := 205) rfl ?_
      refine Jvm.OwnW.iconst O139 at_205 (r := (3 : Int32)) rfl (q := 206) rfl ?_
      refine Jvm.OwnW.callV0 O139 (y := (⟨"com/example/lamina/lamina/table/TextVector", "hashAt", "(I)I"⟩ : MethodName)) (z := (⟨"com/example/lamina/lamina/table/TextVector", "hashAt", "(I)I"⟩ : MethodName)) (a := a136) (argsL := [(.int (3 : Int32))]) (rest := [(.int (own_hash (fun j => ([xb, a0b, a1b, a2b, yb, a0b, a1b, a2b, zb] : List Int32).getD j 0) 1 (4 - 1) 1))]) at_206 (hw _ (List.mem_of_getElem? (i := 26) rfl)) (hw _ (List.mem_of_getElem? (i := 27) rfl)) (hw _ (List.mem_of_getElem? (i := 29) rfl)) rfl (hw _ (List.mem_of_getElem? (i := 28) rfl)) (hw _ (List.mem_of_getElem? (i := 8) rfl)) (hw _ (List.mem_of_getElem? (i := 30) rfl)) (by decide) (rm_h l Z a0 hw a136 (3 : Int32) a123 a129 9 6 3 5 8 (fun j => ([xb, a0b, a1b, a2b, yb, a0b, a1b, a2b, zb] : List Int32).getD j 0) (fun j => ([(0 : Int32), (1 : Int32), (4 : Int32), (5 : Int32), (8 : Int32), (9 : Int32)] : List Int32).getD j 0) h138 E_a136 F_data_a136 F_offsets_a136 (V_a123.congr (lf_int [xb, a0b, a1b, a2b, yb, a0b, a1b, a2b, zb])) (V_a129.congr (lf_int [(0 : Int32), (1 : Int32), (4 : Int32), (5 : Int32), (8 : Int32), (9 : Int32)])) rfl (by decide) rfl rfl (by decide) (by decide)) E_a136 rfl pd_3 rfl (hst := rfl) (W := 1) (Nat.le_of_eq rfl) (by decide) (by decide) (c2 := 5) (s2 := 19) rfl rfl (by decide) (by decide) rfl rfl (q := 209) rfl ?_
      intro v140 T140 O140 q140
      obtain rfl := q140
      show Go C _ _ _ _ (T140.setTop (mkF C.m 209 #[.val (.int p0), .val (.int p1), .val (.int p2), .val (.int (3 : Int32)), .val (.int (1 : Int32)), .val (.int a0b), .val (.int a1b), .val (.int a2b), .val (.int xb), .val (.int yb), .val (.int zb), .val (.ref a123), .val (.ref a129), .val (.ref a136)] [(.int (own_hash (fun j => ([xb, a0b, a1b, a2b, yb, a0b, a1b, a2b, zb] : List Int32).getD j 0) 5 (8 - 5) 1)), (.int (own_hash (fun j => ([xb, a0b, a1b, a2b, yb, a0b, a1b, a2b, zb] : List Int32).getD j 0) 1 (4 - 1) 1))]))
      refine Jvm.OwnW.icmpNo O140 at_209 (teq (show (own_hash (fun j => ([xb, a0b, a1b, a2b, yb, a0b, a1b, a2b, zb] : List Int32).getD j 0) 1 (4 - 1) 1) = (own_hash (fun j => ([xb, a0b, a1b, a2b, yb, a0b, a1b, a2b, zb] : List Int32).getD j 0) 5 (8 - 5) 1) from rfl)).2 (q := 212) rfl ?_
      refine Jvm.OwnW.iconst O140 at_212 (r := (1 : Int32)) rfl (q := 213) rfl ?_
      refine Jvm.OwnW.goto O140 at_213 (by decide) (q := 217) rfl ?_
      exact Jvm.OwnW.retB O140 at_217 rfl (Or.inr rfl) (by decide) (by decide) rfl
set_option maxRecDepth 65536 in
set_option maxHeartbeats 40000000 in
theorem comes_1 {Post : Tables → Env → Array Value → State → Outcome → State → Prop} (hpost : ∀ tb e args s v u, (limb_1_1.after args s (.returned v) u = true ∧ limb_1_2.after args s (.returned v) u = true ∧ True) → FrameEnd s (.returned v) u (Jvm.fieldLocs frame_1_writes args s ++ Jvm.arrayLocs frame_1_arrays args s ++ Jvm.staticLocs frame_1_statics s) 24 128 → Post tb e args s (.returned v) u) :
    ArmFor flags0 classFile x code maxLocals ret World_1 tables_1 room_1 Calls_1 rest_1 Pre_1 Post := by
  intro l hfl _ _ p e ha hc hk s m args below hf hA hF happ hP
  obtain ⟨hcalls, hrest, hpre⟩ := hP
  obtain ⟨-, -, -, hnamed, -, -, -, hat⟩ := (Spec.applies_iff hf).mp happ
  obtain ⟨hg, hn⟩ := and_e (Cond.before_iff.mp (show (Jvm.Cond.and given_1 narrow_1).before args s = true from hpre))
  obtain ⟨hn1, hg⟩ := and_e hg
  obtain ⟨w0, w1, w2, rfl⟩ : ∃ w0 w1 w2 : Value, args = #[w0, w1, w2] := by
    have hs : args.size = 3 := by simpa [Cond.value, given_1] using hn1
    obtain ⟨L⟩ := args
    match L, hs with
    | [w0, w1, w2], _ => exact ⟨w0, w1, w2, rfl⟩
  have hw := fun d (hd : d ∈ tables_1) => atoms_spec (ws := Jvm.Cond.code x code maxLocals ret :: tables_1) hat d (List.mem_cons_of_mem _ hd)
  obtain ⟨hg0, hg⟩ := and_e hg
  obtain ⟨i0, e0⟩ := is_v hg0
  obtain rfl : w0 = (.int i0) := Option.some.inj e0
  obtain ⟨hg1, hg⟩ := and_e hg
  obtain ⟨i1, e1⟩ := is_v hg1
  obtain rfl : w1 = (.int i1) := Option.some.inj e1
  obtain ⟨i2, e2⟩ := is_v hg
  obtain rfl : w2 = (.int i2) := Option.some.inj e2

  obtain ⟨n, o, h1, h2, h3, _, L, rfl, ⟨N, -, -, rfl⟩, hq⟩ := rm_0 l s _ hw tables_1 i0 i1 i2 s.heap  p e ha hc hk s m _ below hf ((Spec.applies_iff_loose hf).mp happ).1 ⟨rfl, State.Warmed39.refl s, rfl⟩ trivial
  refine ⟨n, _, h1, h2, h3, hpost _ _ _ _ _ _ ⟨Cond.after_iff.mpr rfl, Cond.after_iff.mpr (eq_i res_at (Term.int_eval (1)) rfl), trivial⟩ ⟨hq.1, hq.2.1, (hq.2.2.sift fun y hy => Or.inr ((N y hy).elim (fun z => nomatch z) id)).mono (by decide) (by decide)⟩⟩
theorem main_1_1 : Claimed_1_1 := comes_1 fun _ _ _ _ _ _ h hF => ⟨h.1, hF⟩
theorem main_1_2 : Claimed_1_2 := comes_1 fun _ _ _ _ _ _ h hF => ⟨h.2.1, hF⟩
end Jvm.Pilot.@@N@@
namespace Jvm.Pilot.@@N@@
open Jvm Jvm.ClassFile Sem Op Lib Jvm.Free Jvm.Stand Jvm.Pilot.@@N@@.Jvm.D
/-! MADE BY PROGRAM (witnessworld.py) out of the Statement's table words and the real class files: 9 classes; the members and pool entries that the words name. The judged class is class 1, her method 1. -/
namespace start1
open Jvm.ClassFile
def u (s : String) : CpInfo := .utf8 (stringToUtf16 s)
/-- a pool by its gaps: so many unusable entries, then the entry; so many at the end -/
def gap : Nat → List CpInfo → List CpInfo
  | 0, r => r
  | n + 1, r => .unusable :: gap n r
def poolList (es : List (Nat × CpInfo)) (last : Nat) : List CpInfo := es.foldr (fun e r => gap e.1 (e.2 :: r)) (gap last [])
def pool (es : List (Nat × CpInfo)) (last : Nat) : Array CpInfo := ⟨poolList es last⟩
def fileOf (pool : Array CpInfo) (this : Nat) (attrs : Array Attribute := #[]) (ms : Array MethodInfo := #[]) (fl : Nat := 33) (sup : Nat := 0) (ifs : Array Nat := #[]) (fds : Array FieldInfo := #[]) : ClassFile where
  minorVersion := 0
  majorVersion := 65
  constantPool := pool
  accessFlags := fl
  thisClass := this
  superClass := sup
  interfaces := ifs
  fields := fds
  methods := ms
  attributes := attrs
def plain (name : String) (sup : Option ClassId) : Class where
  name := name
  kind := .ordinary
  loader := none
  accessFlags := 33
  super := sup
  interfaces := #[]
  cf := none
  fields := #[]
  methods := #[]
  instanceTypes := #[]
  staticTypes := #[]
  resolved := #[]
  callSites := []
  init := .initialized
  statics := none
  mirror := none

def pool0 : Array CpInfo := pool [(5, u "<init>"), (0, u "()V"), (1, .class_ 10), (1, u "java/lang/Object")] 113

def k0c0 : Code := { maxStack := 0, maxLocals := 1, code := object_method_1_code, exceptionTable := #[], attributes := #[] }
def k0m0 : Method := { name := "<init>", desc := "()V", sig := { parameters := [], returnType := none }, accessFlags := 1, code := some k0c0 }
/-- java/lang/Object -/
def k0 : Class := { plain "java/lang/Object" none with
  accessFlags := 33
  interfaces := #[]
  cf := some (fileOf pool0 8 #[] #[{ accessFlags := 1, nameIndex := 5, descriptorIndex := 6, attributes := #[] }] 33 0 #[] #[])
  fields := #[]
  methods := #[k0m0]
  instanceTypes := #[]
  staticTypes := #[]
  resolved := Array.replicate 124 none
  statics := none }

def pool1 : Array CpInfo := pool [(2, .class_ 4), (0, .nameAndType 5 6), (0, u "java/lang/Object"), (0, u "<init>"), (0, u "()V"), (0, .methodref 8 9), (0, .class_ 10), (0, .nameAndType 11 12), (0, u "com/example/lamina/lamina/table/TextVectorHashAtPinLaw"), (0, u "put"), (0, u "([BIIBBB)V"), (0, .class_ 14), (0, u "com/example/lamina/lamina/table/TextVector"), (0, .methodref 13 3), (0, .methodref 13 17), (0, .nameAndType 18 19), (0, u "reset"), (0, u "([B[II)V"), (0, .methodref 13 21), (0, .nameAndType 22 23), (0, u "hashAt"), (0, u "(I)I"), (2, u "law"), (0, u "(III)Z")] 7

def k1m0 : Method := { name := "<init>", desc := "()V", sig := { parameters := [], returnType := none }, accessFlags := 1, code := none }
def k1c1 : Code := { maxStack := 6, maxLocals := 14, code := code, exceptionTable := #[], attributes := #[] }
def k1m1 : Method := { name := "law", desc := "(III)Z", sig := { parameters := [.int, .int, .int], returnType := some .boolean }, accessFlags := 9, code := some k1c1 }
def k1c2 : Code := { maxStack := 3, maxLocals := 6, code := method_3_code, exceptionTable := #[], attributes := #[] }
def k1m2 : Method := { name := "put", desc := "([BIIBBB)V", sig := { parameters := [(.array .byte), .int, .int, .byte, .byte, .byte], returnType := none }, accessFlags := 10, code := some k1c2 }
/-- com/example/lamina/lamina/table/TextVectorHashAtPinLaw -/
def k1 : Class := { plain "com/example/lamina/lamina/table/TextVectorHashAtPinLaw" (some 0) with
  accessFlags := 49
  interfaces := #[]
  cf := some (fileOf pool1 8 #[] #[{ accessFlags := 1, nameIndex := 5, descriptorIndex := 6, attributes := #[] }, { accessFlags := 9, nameIndex := 26, descriptorIndex := 27, attributes := #[] }, { accessFlags := 10, nameIndex := 11, descriptorIndex := 12, attributes := #[] }] 49 2 #[] #[])
  fields := #[]
  methods := #[k1m0, k1m1, k1m2]
  instanceTypes := #[]
  staticTypes := #[]
  resolved := Array.replicate 35 none
  statics := none }

def pool2 : Array CpInfo := pool [(1, .methodref 2 3), (0, .class_ 4), (0, .nameAndType 5 6), (0, u "java/lang/Object"), (0, u "<init>"), (0, u "()V"), (0, .fieldref 8 9), (0, .class_ 10), (0, .nameAndType 11 12), (0, u "com/example/lamina/lamina/table/TextVector"), (0, u "data"), (0, u "[B"), (0, .fieldref 8 14), (0, .nameAndType 15 16), (0, u "offsets"), (0, u "[I"), (0, .fieldref 8 18), (0, .nameAndType 19 20), (0, u "size"), (0, u "I"), (27, u "reset"), (0, u "([B[II)V"), (3, u "(I)I"), (7, u "hashAt")] 7

def k2c0 : Code := { maxStack := 2, maxLocals := 1, code := prog_90_method_1_code, exceptionTable := #[], attributes := #[] }
def k2m0 : Method := { name := "<init>", desc := "()V", sig := { parameters := [], returnType := none }, accessFlags := 1, code := some k2c0 }
def k2c1 : Code := { maxStack := 2, maxLocals := 4, code := prog_90_method_2_code, exceptionTable := #[], attributes := #[] }
def k2m1 : Method := { name := "reset", desc := "([B[II)V", sig := { parameters := [(.array .byte), (.array .int), .int], returnType := none }, accessFlags := 0, code := some k2c1 }
def k2c2 : Code := { maxStack := 4, maxLocals := 4, code := prog_90_method_10_code, exceptionTable := #[], attributes := #[] }
def k2m2 : Method := { name := "hashAt", desc := "(I)I", sig := { parameters := [.int], returnType := some .int }, accessFlags := 1, code := some k2c2 }
/-- com/example/lamina/lamina/table/TextVector -/
def k2 : Class := { plain "com/example/lamina/lamina/table/TextVector" (some 0) with
  accessFlags := 49
  interfaces := #[]
  cf := some (fileOf pool2 8 #[] #[{ accessFlags := 1, nameIndex := 5, descriptorIndex := 6, attributes := #[] }, { accessFlags := 0, nameIndex := 48, descriptorIndex := 49, attributes := #[] }, { accessFlags := 1, nameIndex := 61, descriptorIndex := 53, attributes := #[] }] 49 2 #[] #[{ accessFlags := 2, nameIndex := 11, descriptorIndex := 12, attributes := #[] }, { accessFlags := 2, nameIndex := 15, descriptorIndex := 16, attributes := #[] }, { accessFlags := 2, nameIndex := 19, descriptorIndex := 20, attributes := #[] }])
  fields := #[{ name := "data", type := (.array .byte), accessFlags := 2, slot := 0, constantValue := 0 }, { name := "offsets", type := (.array .int), accessFlags := 2, slot := 1, constantValue := 0 }, { name := "size", type := .int, accessFlags := 2, slot := 2, constantValue := 0 }]
  methods := #[k2m0, k2m1, k2m2]
  instanceTypes := #[(.array .byte), (.array .int), .int]
  staticTypes := #[]
  resolved := Array.replicate 69 none
  statics := none }

def pool3 : Array CpInfo := pool [(1, u "java/lang/Cloneable"), (0, .class_ 1), (0, u "java/lang/Object"), (0, .class_ 3)] 3

/-- java/lang/Cloneable -/
def k3 : Class := { plain "java/lang/Cloneable" (some 0) with
  accessFlags := 1537
  interfaces := #[]
  cf := some (fileOf pool3 2 #[] #[] 1537 4 #[] #[])
  fields := #[]
  methods := #[]
  instanceTypes := #[]
  staticTypes := #[]
  resolved := Array.replicate 8 none
  statics := none }

def pool4 : Array CpInfo := pool [(1, u "java/io/Serializable"), (0, .class_ 1), (0, u "java/lang/Object"), (0, .class_ 3)] 3

/-- java/io/Serializable -/
def k4 : Class := { plain "java/io/Serializable" (some 0) with
  accessFlags := 1537
  interfaces := #[]
  cf := some (fileOf pool4 2 #[] #[] 1537 4 #[] #[])
  fields := #[]
  methods := #[]
  instanceTypes := #[]
  staticTypes := #[]
  resolved := Array.replicate 8 none
  statics := none }

/-- the primitive byte -/
def k5 : Class := { plain "byte" none with kind := .primitive 'B', accessFlags := 0x411 }
/-- [B -/
def k6 : Class := { plain "[B" (some 0) with kind := .array 5 .byte, interfaces := #[3, 4], accessFlags := 1041 }

/-- the primitive int -/
def k7 : Class := { plain "int" none with kind := .primitive 'I', accessFlags := 0x411 }
/-- [I -/
def k8 : Class := { plain "[I" (some 0) with kind := .array 7 .int, interfaces := #[3, 4], accessFlags := 1041 }

def heap : Heap := #[]
def classes : Array Class := #[k0, k1, k2, k3, k4, k5, k6, k7, k8]
def interned : List (Array UInt16 × Addr) := []
def slotsUsed : Nat := 0
def theMethod : MethodId := ⟨1, 1⟩
def args0 : Array Value := #[.int 5, .int 5, .int 6]
def aboutOver (below : List Frame) : State where
  vm := { classes := classes, interned := interned.toArray }
  heap := heap
  slotsUsed := slotsUsed
  threads := #[{ frames := .invoking theMethod args0 :: below }]
def below0 : List Frame := [.native { method := ⟨0, 0⟩, args := #[] }]
def about1 : State := aboutOver below0
def p0 : Program := .bare "" "" ""
def e0 : Env := launch0.env 0 0 0
theorem w_frames : about1.frames = Frame.invoking theMethod args0 :: below0 := rfl
set_option maxRecDepth 65536 in
theorem w_args : argsFit about1.vm theMethod args0 = true := by decide +kernel
set_option maxRecDepth 65536 in
theorem w_heap : heapFits about1 = true := by decide +kernel
set_option maxRecDepth 65536 in
theorem w_runnable : about1.curStatus? = some .runnable := by decide +kernel
set_option maxRecDepth 65536 in
theorem w_alone : about1.alone = true := by decide +kernel
set_option maxRecDepth 65536 in
theorem w_named : about1.methodNamed? x = some theMethod := by decide +kernel
set_option maxRecDepth 65536 in
theorem w_hears : about1.hears theMethod below0 = true := by decide +kernel
set_option maxRecDepth 65536 in
theorem w_ripe : about1.ripe theMethod args0 below0 = true := by decide +kernel
theorem w_running : about1.status = .running := rfl
set_option maxRecDepth 65536 in
theorem w_room : about1.hasRoom e0.platform room_1 = true :=
  launch0.hasRoom_least _ room_1 (by decide +kernel) (by decide +kernel) (by decide +kernel) (by decide +kernel) (by decide +kernel) (by decide +kernel)
theorem allAtoms_all (ts : List Jvm.Cond) (a : Array Jvm.Value) (st : Jvm.State) : (allAtoms ts).before a st = ts.all (fun c => c.before a st) := by
  induction ts with
  | nil => rfl
  | cons c t ih =>
    show (Jvm.Cond.and c (allAtoms t)).before a st = _
    rw [Jvm.Cond.before_and, ih, List.all_cons]
def words1 : List Jvm.Cond := Jvm.Cond.code x code maxLocals ret :: tables_1
/-- a 'code' word, met by the world's own term for the bytes: nothing is compared byte by byte -/
theorem code_word {y : MethodName} {bytes : ByteArray} {mx : Nat} {rt : Option FieldType} {a : Array Value} {s : State} {m : MethodId} {meth : Method} {c : Code} (h1 : s.methodNamed? y = some m) (h2 : s.vm.method? m = some meth) (h3 : meth.code = some c) (h4 : c.code = bytes)
    (h5 : (c.maxLocals == mx && c.exceptionTable.isEmpty && decide (c.maxStack ≤ mostOperands) && decide (meth.sig.returnType = rt) && !meth.locks && decide (parseMethodDescriptor y.desc = some meth.sig)) = true) : (Jvm.Cond.code y bytes mx rt).before a s = true := by
  simp only [Bool.and_eq_true, beq_iff_eq, Bool.not_eq_true', decide_eq_true_eq] at h5
  obtain ⟨⟨⟨⟨⟨g1, g2⟩, g3⟩, g4⟩, g5⟩, g6⟩ := h5
  simp [Cond.before, Cond.holds, Cond.value, h1, h2, h3, h4, g1, g2, g3, g4, g5, g6]
def isCode : Jvm.Cond → Bool
  | .code _ _ _ _ => true
  | _ => false
theorem all_split {L : List Jvm.Cond} {P : Jvm.Cond → Bool} (h1 : L.all (fun c => isCode c || P c) = true) (h2 : ∀ c ∈ L.filter isCode, P c = true) : L.all P = true := by
  refine List.all_eq_true.mpr fun c hc => ?_
  have h := List.all_eq_true.mp h1 c hc
  rcases Bool.eq_false_or_eq_true (isCode c) with hi | hi
  · exact h2 c (List.mem_filter.mpr ⟨hc, hi⟩)
  · simpa [hi] using h
set_option maxRecDepth 65536 in
theorem w_c0 : (Jvm.Cond.code x code maxLocals ret).before args0 about1 = true := code_word (m := ⟨1, 1⟩) (meth := k1m1) (c := k1c1) (by decide +kernel) rfl rfl rfl (by decide +kernel)
set_option maxRecDepth 65536 in
theorem w_c1 : (Jvm.Cond.code ({ cls := "com/example/lamina/lamina/table/TextVectorHashAtPinLaw", name := "put", desc := "([BIIBBB)V" } : Jvm.MethodName) method_3_code (6 : Nat) (Option.none : Option Jvm.ClassFile.FieldType)).before args0 about1 = true := code_word (m := ⟨1, 2⟩) (meth := k1m2) (c := k1c2) (by decide +kernel) rfl rfl rfl (by decide +kernel)
set_option maxRecDepth 65536 in
theorem w_c2 : (Jvm.Cond.code ({ cls := "com/example/lamina/lamina/table/TextVector", name := "<init>", desc := "()V" } : Jvm.MethodName) prog_90_method_1_code (1 : Nat) (Option.none : Option Jvm.ClassFile.FieldType)).before args0 about1 = true := code_word (m := ⟨2, 0⟩) (meth := k2m0) (c := k2c0) (by decide +kernel) rfl rfl rfl (by decide +kernel)
set_option maxRecDepth 65536 in
theorem w_c3 : (Jvm.Cond.code ({ cls := "java/lang/Object", name := "<init>", desc := "()V" } : Jvm.MethodName) object_method_1_code (1 : Nat) (Option.none : Option Jvm.ClassFile.FieldType)).before args0 about1 = true := code_word (m := ⟨0, 0⟩) (meth := k0m0) (c := k0c0) (by decide +kernel) rfl rfl rfl (by decide +kernel)
set_option maxRecDepth 65536 in
theorem w_c4 : (Jvm.Cond.code ({ cls := "com/example/lamina/lamina/table/TextVector", name := "reset", desc := "([B[II)V" } : Jvm.MethodName) prog_90_method_2_code (4 : Nat) (Option.none : Option Jvm.ClassFile.FieldType)).before args0 about1 = true := code_word (m := ⟨2, 1⟩) (meth := k2m1) (c := k2c1) (by decide +kernel) rfl rfl rfl (by decide +kernel)
set_option maxRecDepth 65536 in
theorem w_c5 : (Jvm.Cond.code ({ cls := "com/example/lamina/lamina/table/TextVector", name := "hashAt", desc := "(I)I" } : Jvm.MethodName) prog_90_method_10_code (4 : Nat) (Option.some Jvm.ClassFile.FieldType.int)).before args0 about1 = true := code_word (m := ⟨2, 2⟩) (meth := k2m2) (c := k2c2) (by decide +kernel) rfl rfl rfl (by decide +kernel)
def codes1 : List Jvm.Cond := [Jvm.Cond.code x code maxLocals ret, Jvm.Cond.code ({ cls := "com/example/lamina/lamina/table/TextVectorHashAtPinLaw", name := "put", desc := "([BIIBBB)V" } : Jvm.MethodName) method_3_code (6 : Nat) (Option.none : Option Jvm.ClassFile.FieldType), Jvm.Cond.code ({ cls := "com/example/lamina/lamina/table/TextVector", name := "<init>", desc := "()V" } : Jvm.MethodName) prog_90_method_1_code (1 : Nat) (Option.none : Option Jvm.ClassFile.FieldType), Jvm.Cond.code ({ cls := "java/lang/Object", name := "<init>", desc := "()V" } : Jvm.MethodName) object_method_1_code (1 : Nat) (Option.none : Option Jvm.ClassFile.FieldType), Jvm.Cond.code ({ cls := "com/example/lamina/lamina/table/TextVector", name := "reset", desc := "([B[II)V" } : Jvm.MethodName) prog_90_method_2_code (4 : Nat) (Option.none : Option Jvm.ClassFile.FieldType), Jvm.Cond.code ({ cls := "com/example/lamina/lamina/table/TextVector", name := "hashAt", desc := "(I)I" } : Jvm.MethodName) prog_90_method_10_code (4 : Nat) (Option.some Jvm.ClassFile.FieldType.int)]
set_option maxRecDepth 65536 in
theorem codes_eq : words1.filter isCode = codes1 := rfl
theorem w_codes : ∀ c ∈ words1.filter isCode, c.before args0 about1 = true := by
  rw [codes_eq]
  intro c hc
  simp only [codes1, List.mem_cons, List.not_mem_nil, or_false] at hc
  rcases hc with rfl | rfl | rfl | rfl | rfl | rfl
  · exact w_c0
  · exact w_c1
  · exact w_c2
  · exact w_c3
  · exact w_c4
  · exact w_c5
set_option maxRecDepth 65536 in
theorem w_t1 : (words1.take 24).all (fun c => isCode c || c.before args0 about1) = true := by decide +kernel
set_option maxRecDepth 65536 in
theorem w_t2 : (words1.drop 24).all (fun c => isCode c || c.before args0 about1) = true := by decide +kernel
theorem w_tables : (allAtoms (Jvm.Cond.code x code maxLocals ret :: tables_1)).before args0 about1 = true := by
  rw [allAtoms_all]
  show words1.all (fun c => c.before args0 about1) = true
  refine all_split ?_ w_codes
  rw [← List.take_append_drop 24 words1, List.all_append, w_t1, w_t2]
  rfl
set_option maxRecDepth 65536 in
theorem w_case : (Jvm.Cond.and given_1 narrow_1).before args0 about1 = true := by decide +kernel
theorem w_applies : (headSpec (Jvm.Cond.code x code maxLocals ret :: tables_1) room_1).applies x e0.platform about1 = true :=
  (Spec.applies_iff w_frames).mpr ⟨w_running, w_runnable, w_alone, w_named, w_hears, w_ripe, w_room, w_tables⟩
theorem atStart : AtStart classFile x code maxLocals ret World_1 tables_1 room_1 Calls_1 rest_1 Pre_1 launch0 p0 e0 about1 theMethod args0 below0 :=
  ⟨lists_1, trivial, launch0.admits_env _ _ _, launch0.least_env, fairChoices_fair.cas, fairChoices_fair.clock, w_frames, w_args, w_heap, w_applies, trivial, trivial, w_case⟩
end start1
theorem witness_1 : WitnessClaimed_1 := ⟨start1.p0, start1.e0, start1.about1, start1.theMethod, start1.args0, start1.below0, start1.atStart⟩
end Jvm.Pilot.@@N@@
