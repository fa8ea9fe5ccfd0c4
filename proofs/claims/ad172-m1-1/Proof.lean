import JvmDerived
import JvmDerived.Pilot.@@N@@Statement
import JvmDerived.Pilot.@@N@@Code
set_option linter.unusedVariables false
set_option linter.unusedSimpArgs false
namespace Jvm.OwnW
open Sem ClassFile Op Lib Jvm.Free Jvm.Stand Jvm.LawKit Jvm.RoadKit
/-- what stays the same all through one invocation -/
abbrev Ctx : Type := Program × Env × State × MethodId × Array Value × List Frame × Method × Code
abbrev Ctx.p (C : Ctx) : Program := C.1
abbrev Ctx.e (C : Ctx) : Env := C.2.1
abbrev Ctx.s (C : Ctx) : State := C.2.2.1
abbrev Ctx.m (C : Ctx) : MethodId := C.2.2.2.1
abbrev Ctx.args (C : Ctx) : Array Value := C.2.2.2.2.1
abbrev Ctx.below (C : Ctx) : List Frame := C.2.2.2.2.2.1
abbrev Ctx.meth (C : Ctx) : Method := C.2.2.2.2.2.2.1
abbrev Ctx.c (C : Ctx) : Code := C.2.2.2.2.2.2.2
/-- each place of the list lies in a cell of ws, or in one made since -/
def Wok (b : Nat) (ws : List Addr) (L : List Loc) : Prop := ∀ y ∈ L, y.base ∈ ws ∨ b ≤ y.base
theorem Wok.nil (b : Nat) (ws : List Addr) : Wok b ws [] := fun _ q => nomatch q
theorem Wok.app {b : Nat} {ws : List Addr} {L L' : List Loc} (N : Wok b ws L) (N' : Wok b ws L') : Wok b ws (L ++ L') := fun y q => (List.mem_append.mp q).elim (N y) (N' y)
theorem Wok.snoc {b : Nat} {ws : List Addr} {L : List Loc} {a : Addr} {sl : Nat} (N : Wok b ws L) (q : a ∈ ws ∨ b ≤ a) : Wok b ws (L ++ [⟨a, sl⟩]) := N.app fun y hy => by cases List.mem_singleton.mp hy; exact q
theorem keep_of_same {s t : State} {L : List Loc} {ws : List Addr} {k n : Nat} (h : s.sameButNew t L k n) (N : Wok s.heap.size ws L) : Keep s.heap t.heap ws := by
  obtain ⟨-, h2, -, -, -, h6⟩ := h
  refine ⟨h2, fun x c hx hn => ?_, fun x c hx => ?_⟩
  · obtain ⟨c', q1, q2, q3, q4⟩ := h6 x c hx
    have hlt := (Array.getElem?_eq_some_iff.mp hx).1
    have : c'.slots = c.slots := Array.ext_getElem? fun i => q4 i fun hm => (N _ hm).elim hn fun z => absurd hlt (Nat.not_lt.mpr z)
    rw [q1, q2, this]
  · obtain ⟨c', q1, q2, q3, q4⟩ := h6 x c hx
    exact ⟨c', q1, by rw [q2], by rw [q2], q3⟩
theorem eq_of_same {s t : State} {L : List Loc} {n : Nat} (h : s.sameButNew t L 0 n) (N : Wok s.heap.size [] L) : t.heap = s.heap := by
  have K := keep_of_same h N
  obtain ⟨-, h2, h3, -⟩ := h
  refine Array.ext_getElem? fun i => ?_
  cases hi : s.heap[i]? with
  | some c => exact K.2.1 i c hi (fun q => nomatch q)
  | none =>
    rw [Array.getElem?_eq_none_iff] at hi ⊢
    omega
/-- where the run stands: the invocation's state T with heap h; of what is older than the invocation only ws has been written -/
def On (l : Launch) (Z : State) (ws : List Addr) (R : Room) (own nm : String) (bytes : ByteArray) (maxL : Nat) (ret : Option FieldType) (C : Ctx) (T : State) (h : Heap) (cells slots : Nat) : Prop :=
  (C.p.tables.exec = Jvm.exec ∧ Z.Warmed39 C.s.vm ∧ C.c.code = bytes ∧ C.c.maxLocals = maxL ∧ C.s.vm.findClass own = some C.m.cls ∧ C.meth.name = nm ∧ C.meth.sig.returnType = ret ∧ C.meth.locks = false) ∧
  (∃ locs, Stand C.p l C.e R C.s C.m C.args C.below C.meth C.c T locs cells slots ∧ Wok C.s.heap.size ws locs) ∧ T.heap = h
def Post (ws : List Addr) (rc : Nat) (h0 : Heap) (Q : Option Value → Heap → Prop) (v : Option Value) (h : Heap) (L : List Loc) : Prop := Wok h0.size ws L ∧ Keep h0 h ws ∧ (rc = 0 → ws = [] → h = h0) ∧ Q v h
/-- from the state A the invocation comes to its end, with Q of what it returns and of the heap it leaves -/
def Go (C : Ctx) (ws : List Addr) (Q : Option Value → Heap → Prop) (k n : Nat) (A : State) : Prop :=
  ∃ U o, Steps C.p.tables C.e C.below A U ∧ U.status = .running ∧ Ended U C.below o ∧ ∃ v L, o = .returned v ∧ Post ws k C.s.heap Q v U.heap L ∧ FrameEnd C.s o U L k n
def Met (l : Launch) (Z : State) (y : MethodName) (bytes : ByteArray) (maxL : Nat) (ret : Option FieldType) (wds : List Cond) (rm : Room) (as' : Array Value) (ws : List Addr) (h0 : Heap) (Q : Option Value → Heap → Prop) : Prop :=
  MetFree l y (head1 (Cond.code y bytes maxL ret :: wds) rm) (fun a U => a = as' ∧ Z.Warmed39 U.vm ∧ U.heap = h0) (fun _ _ _ _ _ => True) (fun _ U o U' => ∃ v L, o = .returned v ∧ Post ws rm.cells h0 Q v U'.heap L ∧ FrameEnd U o U' L rm.cells rm.slots)
theorem Met.mk {l : Launch} {Z : State} {y : MethodName} {bytes : ByteArray} {maxL : Nat} {ret : Option FieldType} {wds : List Cond} {rm : Room} {as' : Array Value} {ws : List Addr} {h0 : Heap} {Q : Option Value → Heap → Prop} {Ls : Array Slot}
    (hp : plainFor y = true) (ef : ∀ m, entryFrame m as' maxL = mkF m 0 Ls [])
    (H : ∀ (C : Ctx) (T : State), C.s.heap = h0 → On l Z ws rm y.cls y.name bytes maxL ret C T h0 0 0 → Go C ws Q rm.cells rm.slots (T.setTop (mkF C.m 0 Ls []))) : Met l Z y bytes maxL ret wds rm as' ws h0 Q := by
  refine MetFree.of_bodySF hp hisR ?_
  intro p e s m args below meth c s₁ Bd hml0 hP hK
  obtain ⟨rfl, hZ, hh⟩ := hP
  have e0 : s₁.heap = h0 := by rw [← hh, Bd.state]; rfl
  have := H (p, e, s, m, args, below, meth, c) s₁ hh ⟨⟨Bd.exec, hZ, Bd.bytes, hml0, findClass_of_methodNamed Bd.named, (name_of_methodNamed Bd.named Bd.method).1, Bd.returns, Bd.notSynchronized⟩, ⟨[], Stand.of_body Bd, Wok.nil _ _⟩, e0⟩
  obtain ⟨U, o, h1, h2, h3, v, L, h4, h5, h6⟩ := this
  refine ⟨U, o, castTop (ef m) h1, h2, h3, v, L, h4, ?_, h6⟩
  rw [← hh]; exact h5
theorem Go.of {C : Ctx} {ws : List Addr} {Q : Option Value → Heap → Prop} {k n : Nat} {A B : State} (g : Go C ws Q k n B) (h : ∀ t, Steps C.p.tables C.e C.below B t → Steps C.p.tables C.e C.below A t) : Go C ws Q k n A := by
  obtain ⟨U, o, h1, r⟩ := g; exact ⟨U, o, h _ h1, r⟩
theorem Go.via {C : Ctx} {ws : List Addr} {Q : Option Value → Heap → Prop} {k n : Nat} {A B : State} (g : Go C ws Q k n B) (h : Steps C.p.tables C.e C.below A B) : Go C ws Q k n A := by
  obtain ⟨U, o, h1, r⟩ := g; exact ⟨U, o, h.trans h1, r⟩
section Steps
variable {l : Launch} {Z : State} {a0 : Array Value} {ws : List Addr} {R : Room} {own nm : String} {bytes : ByteArray} {maxL : Nat} {ret : Option FieldType} {C : Ctx} {T : State} {h : Heap} {cells slots k n : Nat} {Q : Option Value → Heap → Prop} {pc q : Nat} {Ls L' : Array Slot} {st : List Value}
theorem On.size (O : On l Z ws R own nm bytes maxL ret C T h cells slots) : C.s.heap.size ≤ h.size := by
  obtain ⟨-, ⟨_, X, -⟩, rfl⟩ := O; exact X.same.2.1
theorem On.kept (O : On l Z ws R own nm bytes maxL ret C T h cells slots) : Keep C.s.heap h ws := by
  obtain ⟨-, ⟨_, X, N⟩, rfl⟩ := O; exact keep_of_same (t := T.setVm C.s.vm) X.same N
theorem fin (O : On l Z ws R own nm bytes maxL ret C T h cells slots) {v : Option Value} (hv : ret = none → v = none) (hk : cells ≤ k) (hn : slots ≤ n) (hQ : Q v h)
    (stp : ∀ X : State, ∀ fs, (∀ (f : JFrame) (acts : List Action), f.method = C.m → f.locked = none → f.entered = [] → (doReturn C.e (T.setTop f) acts v).1 = T.setFrames fs) → X = T.setFrames fs → Steps C.p.tables C.e C.below (T.setTop (mkF C.m pc Ls st)) X) : Go C ws Q k n (T.setTop (mkF C.m pc Ls st)) := by
  obtain ⟨⟨hx, hZ, -, -, -, -, hret, hlk⟩, ⟨L, X, N⟩, eT⟩ := O
  obtain ⟨fs, hr, hrun, hended, hW, hsame⟩ := X.leave (v := v) (fun q => hv (hret ▸ q)) hlk
  refine ⟨_, _, stp _ fs hr rfl, hrun, hended, v, L, rfl, ⟨N, ?_, ?_, ?_⟩, ⟨_, rfl⟩, hW, hsame.mono hk hn⟩
  · exact keep_of_same (t := T.setVm C.s.vm) X.same N
  · rintro rfl rfl
    exact eq_of_same (t := T.setVm C.s.vm) (X.same.mono hk (Nat.le_refl _)) N
  · show Q v T.heap; rw [eT]; exact hQ
theorem ret0 (O : On l Z ws R own nm bytes maxL none C T h cells slots) (hd : decode bytes pc = .ok (.return_, 1)) (hk : cells ≤ k) (hn : slots ≤ n) (hQ : Q none h) : Go C ws Q k n (T.setTop (mkF C.m pc Ls [])) := by
  refine fin O (fun _ => rfl) hk hn hQ ?_
  obtain ⟨⟨hx, hZ, rfl, -, -, -, hret, hlk⟩, ⟨L, X, N⟩, eT⟩ := O
  rintro _ fs hr rfl
  exact X.returnOut hx hret hd hr
theorem retV {t : FieldType} {w w' : Value} {i : Instr} {rest : List Value} (O : On l Z ws R own nm bytes maxL (some t) C T h cells slots) (hd : decode bytes pc = .ok (i, 1)) (hw : w' = w) (hnw : narrow t w = w)
    (hi : (i = .ireturn ∧ (t = .int ∨ t = .boolean ∨ t = .byte ∨ t = .char ∨ t = .short) ∧ ∃ z, w = .int z) ∨ (i = .lreturn ∧ t = .long ∧ ∃ z, w = .long z) ∨ (i = .dreturn ∧ t = .double ∧ ∃ z, w = .double z) ∨ (i = .freturn ∧ t = .float ∧ ∃ z, w = .float z) ∨ (i = .areturn ∧ t.isReference = true ∧ w.isRef = true))
    (hk : cells ≤ k) (hn : slots ≤ n) (hQ : Q (some w) h) : Go C ws Q k n (T.setTop (mkF C.m pc Ls (w' :: rest))) := by
  subst hw
  refine fin O (fun q => nomatch q) hk hn hQ ?_
  obtain ⟨⟨hx, hZ, rfl, -, -, -, hret, hlk⟩, ⟨L, X, N⟩, eT⟩ := O
  rintro _ fs hr rfl
  exact retOut X hx hret hnw hi hd hr
theorem retI {z z' : Int32} {rest : List Value} (O : On l Z ws R own nm bytes maxL (some .int) C T h cells slots) (hd : decode bytes pc = .ok (.ireturn, 1)) (hz : z = z') (hk : cells ≤ k) (hn : slots ≤ n) (hQ : Q (some (.int z')) h) : Go C ws Q k n (T.setTop (mkF C.m pc Ls (.int z :: rest))) :=
  retV O hd (congrArg Value.int hz) rfl (Or.inl ⟨rfl, Or.inl rfl, _, rfl⟩) hk hn hQ
theorem retB {z z' : Int32} {rest : List Value} (O : On l Z ws R own nm bytes maxL (some .boolean) C T h cells slots) (hd : decode bytes pc = .ok (.ireturn, 1)) (hz : z = z') (h01 : z' = 0 ∨ z' = 1) (hk : cells ≤ k) (hn : slots ≤ n) (hQ : Q (some (.int z')) h) : Go C ws Q k n (T.setTop (mkF C.m pc Ls (.int z :: rest))) :=
  retV O hd (congrArg Value.int hz) (by rcases h01 with rfl | rfl <;> rfl) (Or.inl ⟨rfl, Or.inr (Or.inl rfl), _, rfl⟩) hk hn hQ
theorem retY {z z' : Int32} {rest : List Value} (O : On l Z ws R own nm bytes maxL (some .byte) C T h cells slots) (hd : decode bytes pc = .ok (.ireturn, 1)) (hz : z = z') (hb : z'.toInt8.toInt32 = z') (hk : cells ≤ k) (hn : slots ≤ n) (hQ : Q (some (.int z')) h) : Go C ws Q k n (T.setTop (mkF C.m pc Ls (.int z :: rest))) :=
  retV O hd (congrArg Value.int hz) (congrArg Value.int hb) (Or.inl ⟨rfl, Or.inr (Or.inr (Or.inl rfl)), _, rfl⟩) hk hn hQ
theorem retL {z z' : Int64} {rest : List Value} (O : On l Z ws R own nm bytes maxL (some .long) C T h cells slots) (hd : decode bytes pc = .ok (.lreturn, 1)) (hz : z = z') (hk : cells ≤ k) (hn : slots ≤ n) (hQ : Q (some (.long z')) h) : Go C ws Q k n (T.setTop (mkF C.m pc Ls (.long z :: rest))) :=
  retV O hd (congrArg Value.long hz) rfl (Or.inr (Or.inl ⟨rfl, rfl, _, rfl⟩)) hk hn hQ
theorem retA {t : FieldType} {w : Value} {rest : List Value} (O : On l Z ws R own nm bytes maxL (some t) C T h cells slots) (hd : decode bytes pc = .ok (.areturn, 1)) (ht : t.isReference = true) (hw : w.isRef = true) (hnw : narrow t w = w) (hk : cells ≤ k) (hn : slots ≤ n) (hQ : Q (some w) h) : Go C ws Q k n (T.setTop (mkF C.m pc Ls (w :: rest))) :=
  retV O hd rfl hnw (Or.inr (Or.inr (Or.inr (Or.inr ⟨rfl, ht, hw⟩)))) hk hn hQ
theorem iload (O : On l Z ws R own nm bytes maxL ret C T h cells slots) {i : Nat} {v : Int32} (hd : decode bytes pc = .ok (.iload i, 2)) (hl : Ls[i]? = some (.val (.int v))) (hq : pc + 2 = q)
    (K : Go C ws Q k n (T.setTop (mkF C.m q Ls (.int v :: st)))) : Go C ws Q k n (T.setTop (mkF C.m pc Ls (st))) := by
  obtain ⟨⟨hx, -, rfl, -⟩, ⟨_, X, -⟩, -⟩ := O; subst hq
  exact K.of fun _ kk => XS.iload X.here hx rfl hd hl kk
theorem iloadN (O : On l Z ws R own nm bytes maxL ret C T h cells slots) {i : Fin 4} {v : Int32} (hd : decode bytes pc = .ok (.iload_n i, 1)) (hl : Ls[i.val]? = some (.val (.int v))) (hq : pc + 1 = q)
    (K : Go C ws Q k n (T.setTop (mkF C.m q Ls (.int v :: st)))) : Go C ws Q k n (T.setTop (mkF C.m pc Ls (st))) := by
  obtain ⟨⟨hx, -, rfl, -⟩, ⟨_, X, -⟩, -⟩ := O; subst hq
  exact K.of fun _ kk => XS.iloadN X.here hx rfl hd hl kk
theorem lload (O : On l Z ws R own nm bytes maxL ret C T h cells slots) {i : Nat} {v : Int64} (hd : decode bytes pc = .ok (.lload i, 2)) (hl : Ls[i]? = some (.val (.long v))) (hq : pc + 2 = q)
    (K : Go C ws Q k n (T.setTop (mkF C.m q Ls (.long v :: st)))) : Go C ws Q k n (T.setTop (mkF C.m pc Ls (st))) := by
  obtain ⟨⟨hx, -, rfl, -⟩, ⟨_, X, -⟩, -⟩ := O; subst hq
  exact K.of fun _ kk => XS.lload X.here hx rfl hd hl kk
theorem lloadN (O : On l Z ws R own nm bytes maxL ret C T h cells slots) {i : Fin 4} {v : Int64} (hd : decode bytes pc = .ok (.lload_n i, 1)) (hl : Ls[i.val]? = some (.val (.long v))) (hq : pc + 1 = q)
    (K : Go C ws Q k n (T.setTop (mkF C.m q Ls (.long v :: st)))) : Go C ws Q k n (T.setTop (mkF C.m pc Ls (st))) := by
  obtain ⟨⟨hx, -, rfl, -⟩, ⟨_, X, -⟩, -⟩ := O; subst hq
  exact K.of fun _ kk => XS.lloadN X.here hx rfl hd hl kk
theorem aload (O : On l Z ws R own nm bytes maxL ret C T h cells slots) {i : Nat} {v : Value} (hd : decode bytes pc = .ok (.aload i, 2)) (hl : Ls[i]? = some (.val v)) (hv : v.isRef = true) (hq : pc + 2 = q)
    (K : Go C ws Q k n (T.setTop (mkF C.m q Ls (v :: st)))) : Go C ws Q k n (T.setTop (mkF C.m pc Ls (st))) := by
  obtain ⟨⟨hx, -, rfl, -⟩, ⟨_, X, -⟩, -⟩ := O; subst hq
  exact K.of fun _ kk => XS.aload X.here hx rfl hd hl hv kk
theorem aloadN (O : On l Z ws R own nm bytes maxL ret C T h cells slots) {i : Fin 4} {v : Value} (hd : decode bytes pc = .ok (.aload_n i, 1)) (hl : Ls[i.val]? = some (.val v)) (hv : v.isRef = true) (hq : pc + 1 = q)
    (K : Go C ws Q k n (T.setTop (mkF C.m q Ls (v :: st)))) : Go C ws Q k n (T.setTop (mkF C.m pc Ls (st))) := by
  obtain ⟨⟨hx, -, rfl, -⟩, ⟨_, X, -⟩, -⟩ := O; subst hq
  exact K.of fun _ kk => XS.aloadN X.here hx rfl hd hl hv kk
theorem istore (O : On l Z ws R own nm bytes maxL ret C T h cells slots) {i : Nat} {v : Int32} (hd : decode bytes pc = .ok (.istore i, 2)) (hl : storeLocals Ls i (.int v) = some L') (hq : pc + 2 = q)
    (K : Go C ws Q k n (T.setTop (mkF C.m q L' (st)))) : Go C ws Q k n (T.setTop (mkF C.m pc Ls (.int v :: st))) := by
  obtain ⟨⟨hx, -, rfl, -⟩, ⟨_, X, -⟩, -⟩ := O; subst hq
  exact K.of fun _ kk => XS.istore X.here hx rfl hd rfl hl kk
theorem istoreN (O : On l Z ws R own nm bytes maxL ret C T h cells slots) {i : Fin 4} {v : Int32} (hd : decode bytes pc = .ok (.istore_n i, 1)) (hl : storeLocals Ls i.val (.int v) = some L') (hq : pc + 1 = q)
    (K : Go C ws Q k n (T.setTop (mkF C.m q L' (st)))) : Go C ws Q k n (T.setTop (mkF C.m pc Ls (.int v :: st))) := by
  obtain ⟨⟨hx, -, rfl, -⟩, ⟨_, X, -⟩, -⟩ := O; subst hq
  exact K.of fun _ kk => XS.istoreN X.here hx rfl hd rfl hl kk
theorem lstore (O : On l Z ws R own nm bytes maxL ret C T h cells slots) {i : Nat} {v : Int64} (hd : decode bytes pc = .ok (.lstore i, 2)) (hl : storeLocals Ls i (.long v) = some L') (hq : pc + 2 = q)
    (K : Go C ws Q k n (T.setTop (mkF C.m q L' (st)))) : Go C ws Q k n (T.setTop (mkF C.m pc Ls (.long v :: st))) := by
  obtain ⟨⟨hx, -, rfl, -⟩, ⟨_, X, -⟩, -⟩ := O; subst hq
  exact K.of fun _ kk => XS.lstore X.here hx rfl hd rfl hl kk
theorem lstoreN (O : On l Z ws R own nm bytes maxL ret C T h cells slots) {i : Fin 4} {v : Int64} (hd : decode bytes pc = .ok (.lstore_n i, 1)) (hl : storeLocals Ls i.val (.long v) = some L') (hq : pc + 1 = q)
    (K : Go C ws Q k n (T.setTop (mkF C.m q L' (st)))) : Go C ws Q k n (T.setTop (mkF C.m pc Ls (.long v :: st))) := by
  obtain ⟨⟨hx, -, rfl, -⟩, ⟨_, X, -⟩, -⟩ := O; subst hq
  exact K.of fun _ kk => XS.lstoreN X.here hx rfl hd rfl hl kk
theorem astore (O : On l Z ws R own nm bytes maxL ret C T h cells slots) {i : Nat} {v : Value} (hd : decode bytes pc = .ok (.astore i, 2)) (hv : v.isRef = true) (hl : storeLocals Ls i v = some L') (hq : pc + 2 = q)
    (K : Go C ws Q k n (T.setTop (mkF C.m q L' (st)))) : Go C ws Q k n (T.setTop (mkF C.m pc Ls (v :: st))) := by
  obtain ⟨⟨hx, -, rfl, -⟩, ⟨_, X, -⟩, -⟩ := O; subst hq
  exact K.of fun _ kk => XS.astore X.here hx rfl hd rfl hv hl kk
theorem astoreN (O : On l Z ws R own nm bytes maxL ret C T h cells slots) {i : Fin 4} {v : Value} (hd : decode bytes pc = .ok (.astore_n i, 1)) (hv : v.isRef = true) (hl : storeLocals Ls i.val v = some L') (hq : pc + 1 = q)
    (K : Go C ws Q k n (T.setTop (mkF C.m q L' (st)))) : Go C ws Q k n (T.setTop (mkF C.m pc Ls (v :: st))) := by
  obtain ⟨⟨hx, -, rfl, -⟩, ⟨_, X, -⟩, -⟩ := O; subst hq
  exact K.of fun _ kk => XS.astoreN X.here hx rfl hd rfl hv hl kk
theorem iconst (O : On l Z ws R own nm bytes maxL ret C T h cells slots) {i : Int} {r : Int32} (hd : decode bytes pc = .ok (.iconst i, 1)) (hr : Int32.ofInt i = r) (hq : pc + 1 = q)
    (K : Go C ws Q k n (T.setTop (mkF C.m q Ls (.int r :: st)))) : Go C ws Q k n (T.setTop (mkF C.m pc Ls (st))) := by
  obtain ⟨⟨hx, -, rfl, -⟩, ⟨_, X, -⟩, -⟩ := O; subst hq hr
  exact K.of fun _ kk => XS.iconst X.here hx rfl hd kk
theorem bipush (O : On l Z ws R own nm bytes maxL ret C T h cells slots) {i : Int} {r : Int32} (hd : decode bytes pc = .ok (.bipush i, 2)) (hr : (Int8.ofInt i).toInt32 = r) (hq : pc + 2 = q)
    (K : Go C ws Q k n (T.setTop (mkF C.m q Ls (.int r :: st)))) : Go C ws Q k n (T.setTop (mkF C.m pc Ls (st))) := by
  obtain ⟨⟨hx, -, rfl, -⟩, ⟨_, X, -⟩, -⟩ := O; subst hq hr
  exact K.of fun _ kk => XS.bipush X.here hx rfl hd kk
theorem sipush (O : On l Z ws R own nm bytes maxL ret C T h cells slots) {i : Int} {r : Int32} (hd : decode bytes pc = .ok (.sipush i, 3)) (hr : (Int16.ofInt i).toInt32 = r) (hq : pc + 3 = q)
    (K : Go C ws Q k n (T.setTop (mkF C.m q Ls (.int r :: st)))) : Go C ws Q k n (T.setTop (mkF C.m pc Ls (st))) := by
  obtain ⟨⟨hx, -, rfl, -⟩, ⟨_, X, -⟩, -⟩ := O; subst hq hr
  exact K.of fun _ kk => XS.sipush X.here hx rfl hd kk
theorem lconst (O : On l Z ws R own nm bytes maxL ret C T h cells slots) {i : Fin 2} {r : Int64} (hd : decode bytes pc = .ok (.lconst i, 1)) (hr : Int64.ofNat i = r) (hq : pc + 1 = q)
    (K : Go C ws Q k n (T.setTop (mkF C.m q Ls (.long r :: st)))) : Go C ws Q k n (T.setTop (mkF C.m pc Ls (st))) := by
  obtain ⟨⟨hx, -, rfl, -⟩, ⟨_, X, -⟩, -⟩ := O; subst hq hr
  exact K.of fun _ kk => XS.lconst X.here hx rfl hd kk
theorem aconst_null (O : On l Z ws R own nm bytes maxL ret C T h cells slots)  (hd : decode bytes pc = .ok (.aconst_null, 1))  (hq : pc + 1 = q)
    (K : Go C ws Q k n (T.setTop (mkF C.m q Ls (.null :: st)))) : Go C ws Q k n (T.setTop (mkF C.m pc Ls (st))) := by
  obtain ⟨⟨hx, -, rfl, -⟩, ⟨_, X, -⟩, -⟩ := O; subst hq
  exact K.of fun _ kk => XS.aconstNull X.here hx rfl hd kk
theorem iadd (O : On l Z ws R own nm bytes maxL ret C T h cells slots) {x y r : Int32} (hd : decode bytes pc = .ok (.iadd, 1)) (hr : x + y = r) (hq : pc + 1 = q)
    (K : Go C ws Q k n (T.setTop (mkF C.m q Ls (.int r :: st)))) : Go C ws Q k n (T.setTop (mkF C.m pc Ls (.int y :: .int x :: st))) := by
  obtain ⟨⟨hx, -, rfl, -⟩, ⟨_, X, -⟩, -⟩ := O; subst hq hr
  exact K.of fun _ kk => XS.iadd X.here hx rfl hd rfl kk
theorem isub (O : On l Z ws R own nm bytes maxL ret C T h cells slots) {x y r : Int32} (hd : decode bytes pc = .ok (.isub, 1)) (hr : x - y = r) (hq : pc + 1 = q)
    (K : Go C ws Q k n (T.setTop (mkF C.m q Ls (.int r :: st)))) : Go C ws Q k n (T.setTop (mkF C.m pc Ls (.int y :: .int x :: st))) := by
  obtain ⟨⟨hx, -, rfl, -⟩, ⟨_, X, -⟩, -⟩ := O; subst hq hr
  exact K.of fun _ kk => XS.isub X.here hx rfl hd rfl kk
theorem imul (O : On l Z ws R own nm bytes maxL ret C T h cells slots) {x y r : Int32} (hd : decode bytes pc = .ok (.imul, 1)) (hr : x * y = r) (hq : pc + 1 = q)
    (K : Go C ws Q k n (T.setTop (mkF C.m q Ls (.int r :: st)))) : Go C ws Q k n (T.setTop (mkF C.m pc Ls (.int y :: .int x :: st))) := by
  obtain ⟨⟨hx, -, rfl, -⟩, ⟨_, X, -⟩, -⟩ := O; subst hq hr
  exact K.of fun _ kk => XS.imul X.here hx rfl hd rfl kk
theorem iand (O : On l Z ws R own nm bytes maxL ret C T h cells slots) {x y r : Int32} (hd : decode bytes pc = .ok (.iand, 1)) (hr : x &&& y = r) (hq : pc + 1 = q)
    (K : Go C ws Q k n (T.setTop (mkF C.m q Ls (.int r :: st)))) : Go C ws Q k n (T.setTop (mkF C.m pc Ls (.int y :: .int x :: st))) := by
  obtain ⟨⟨hx, -, rfl, -⟩, ⟨_, X, -⟩, -⟩ := O; subst hq hr
  exact K.of fun _ kk => XS.iand X.here hx rfl hd rfl kk
theorem ior (O : On l Z ws R own nm bytes maxL ret C T h cells slots) {x y r : Int32} (hd : decode bytes pc = .ok (.ior, 1)) (hr : x ||| y = r) (hq : pc + 1 = q)
    (K : Go C ws Q k n (T.setTop (mkF C.m q Ls (.int r :: st)))) : Go C ws Q k n (T.setTop (mkF C.m pc Ls (.int y :: .int x :: st))) := by
  obtain ⟨⟨hx, -, rfl, -⟩, ⟨_, X, -⟩, -⟩ := O; subst hq hr
  exact K.of fun _ kk => XS.ior X.here hx rfl hd rfl kk
theorem ixor (O : On l Z ws R own nm bytes maxL ret C T h cells slots) {x y r : Int32} (hd : decode bytes pc = .ok (.ixor, 1)) (hr : x ^^^ y = r) (hq : pc + 1 = q)
    (K : Go C ws Q k n (T.setTop (mkF C.m q Ls (.int r :: st)))) : Go C ws Q k n (T.setTop (mkF C.m pc Ls (.int y :: .int x :: st))) := by
  obtain ⟨⟨hx, -, rfl, -⟩, ⟨_, X, -⟩, -⟩ := O; subst hq hr
  exact K.of fun _ kk => XS.ixor X.here hx rfl hd rfl kk
theorem ishl (O : On l Z ws R own nm bytes maxL ret C T h cells slots) {x y r : Int32} (hd : decode bytes pc = .ok (.ishl, 1)) (hr : x <<< (y &&& 31) = r) (hq : pc + 1 = q)
    (K : Go C ws Q k n (T.setTop (mkF C.m q Ls (.int r :: st)))) : Go C ws Q k n (T.setTop (mkF C.m pc Ls (.int y :: .int x :: st))) := by
  obtain ⟨⟨hx, -, rfl, -⟩, ⟨_, X, -⟩, -⟩ := O; subst hq hr
  exact K.of fun _ kk => XS.ishl X.here hx rfl hd rfl kk
theorem ishr (O : On l Z ws R own nm bytes maxL ret C T h cells slots) {x y r : Int32} (hd : decode bytes pc = .ok (.ishr, 1)) (hr : x >>> (y &&& 31) = r) (hq : pc + 1 = q)
    (K : Go C ws Q k n (T.setTop (mkF C.m q Ls (.int r :: st)))) : Go C ws Q k n (T.setTop (mkF C.m pc Ls (.int y :: .int x :: st))) := by
  obtain ⟨⟨hx, -, rfl, -⟩, ⟨_, X, -⟩, -⟩ := O; subst hq hr
  exact K.of fun _ kk => XS.ishr X.here hx rfl hd rfl kk
theorem iushr (O : On l Z ws R own nm bytes maxL ret C T h cells slots) {x y r : Int32} (hd : decode bytes pc = .ok (.iushr, 1)) (hr : (x.toUInt32 >>> (y &&& 31).toUInt32).toInt32 = r) (hq : pc + 1 = q)
    (K : Go C ws Q k n (T.setTop (mkF C.m q Ls (.int r :: st)))) : Go C ws Q k n (T.setTop (mkF C.m pc Ls (.int y :: .int x :: st))) := by
  obtain ⟨⟨hx, -, rfl, -⟩, ⟨_, X, -⟩, -⟩ := O; subst hq hr
  exact K.of fun _ kk => XS.iushr X.here hx rfl hd rfl kk
theorem idiv (O : On l Z ws R own nm bytes maxL ret C T h cells slots) {x y r : Int32} (hd : decode bytes pc = .ok (.idiv, 1)) (hy : y ≠ 0) (hr : x / y = r) (hq : pc + 1 = q)
    (K : Go C ws Q k n (T.setTop (mkF C.m q Ls (.int r :: st)))) : Go C ws Q k n (T.setTop (mkF C.m pc Ls (.int y :: .int x :: st))) := by
  obtain ⟨⟨hx, -, rfl, -⟩, ⟨_, X, -⟩, -⟩ := O; subst hq hr
  exact K.of fun _ kk => XS.idiv X.here hx rfl hd rfl hy kk
theorem irem (O : On l Z ws R own nm bytes maxL ret C T h cells slots) {x y r : Int32} (hd : decode bytes pc = .ok (.irem, 1)) (hy : y ≠ 0) (hr : x % y = r) (hq : pc + 1 = q)
    (K : Go C ws Q k n (T.setTop (mkF C.m q Ls (.int r :: st)))) : Go C ws Q k n (T.setTop (mkF C.m pc Ls (.int y :: .int x :: st))) := by
  obtain ⟨⟨hx, -, rfl, -⟩, ⟨_, X, -⟩, -⟩ := O; subst hq hr; rw [← irem_eq_mod] at K
  exact K.of fun _ kk => XS.irem X.here hx rfl hd rfl hy kk
theorem ladd (O : On l Z ws R own nm bytes maxL ret C T h cells slots) {x y r : Int64} (hd : decode bytes pc = .ok (.ladd, 1)) (hr : x + y = r) (hq : pc + 1 = q)
    (K : Go C ws Q k n (T.setTop (mkF C.m q Ls (.long r :: st)))) : Go C ws Q k n (T.setTop (mkF C.m pc Ls (.long y :: .long x :: st))) := by
  obtain ⟨⟨hx, -, rfl, -⟩, ⟨_, X, -⟩, -⟩ := O; subst hq hr
  exact K.of fun _ kk => XS.ladd X.here hx rfl hd rfl kk
theorem lsub (O : On l Z ws R own nm bytes maxL ret C T h cells slots) {x y r : Int64} (hd : decode bytes pc = .ok (.lsub, 1)) (hr : x - y = r) (hq : pc + 1 = q)
    (K : Go C ws Q k n (T.setTop (mkF C.m q Ls (.long r :: st)))) : Go C ws Q k n (T.setTop (mkF C.m pc Ls (.long y :: .long x :: st))) := by
  obtain ⟨⟨hx, -, rfl, -⟩, ⟨_, X, -⟩, -⟩ := O; subst hq hr
  exact K.of fun _ kk => XS.lsub X.here hx rfl hd rfl kk
theorem lmul (O : On l Z ws R own nm bytes maxL ret C T h cells slots) {x y r : Int64} (hd : decode bytes pc = .ok (.lmul, 1)) (hr : x * y = r) (hq : pc + 1 = q)
    (K : Go C ws Q k n (T.setTop (mkF C.m q Ls (.long r :: st)))) : Go C ws Q k n (T.setTop (mkF C.m pc Ls (.long y :: .long x :: st))) := by
  obtain ⟨⟨hx, -, rfl, -⟩, ⟨_, X, -⟩, -⟩ := O; subst hq hr
  exact K.of fun _ kk => XS.lmul X.here hx rfl hd rfl kk
theorem land (O : On l Z ws R own nm bytes maxL ret C T h cells slots) {x y r : Int64} (hd : decode bytes pc = .ok (.land, 1)) (hr : x &&& y = r) (hq : pc + 1 = q)
    (K : Go C ws Q k n (T.setTop (mkF C.m q Ls (.long r :: st)))) : Go C ws Q k n (T.setTop (mkF C.m pc Ls (.long y :: .long x :: st))) := by
  obtain ⟨⟨hx, -, rfl, -⟩, ⟨_, X, -⟩, -⟩ := O; subst hq hr
  exact K.of fun _ kk => XS.land X.here hx rfl hd rfl kk
theorem lor (O : On l Z ws R own nm bytes maxL ret C T h cells slots) {x y r : Int64} (hd : decode bytes pc = .ok (.lor, 1)) (hr : x ||| y = r) (hq : pc + 1 = q)
    (K : Go C ws Q k n (T.setTop (mkF C.m q Ls (.long r :: st)))) : Go C ws Q k n (T.setTop (mkF C.m pc Ls (.long y :: .long x :: st))) := by
  obtain ⟨⟨hx, -, rfl, -⟩, ⟨_, X, -⟩, -⟩ := O; subst hq hr
  exact K.of fun _ kk => XS.lor X.here hx rfl hd rfl kk
theorem lxor (O : On l Z ws R own nm bytes maxL ret C T h cells slots) {x y r : Int64} (hd : decode bytes pc = .ok (.lxor, 1)) (hr : x ^^^ y = r) (hq : pc + 1 = q)
    (K : Go C ws Q k n (T.setTop (mkF C.m q Ls (.long r :: st)))) : Go C ws Q k n (T.setTop (mkF C.m pc Ls (.long y :: .long x :: st))) := by
  obtain ⟨⟨hx, -, rfl, -⟩, ⟨_, X, -⟩, -⟩ := O; subst hq hr
  exact K.of fun _ kk => XS.lxor X.here hx rfl hd rfl kk
theorem ldiv (O : On l Z ws R own nm bytes maxL ret C T h cells slots) {x y r : Int64} (hd : decode bytes pc = .ok (.ldiv, 1)) (hy : y ≠ 0) (hr : x / y = r) (hq : pc + 1 = q)
    (K : Go C ws Q k n (T.setTop (mkF C.m q Ls (.long r :: st)))) : Go C ws Q k n (T.setTop (mkF C.m pc Ls (.long y :: .long x :: st))) := by
  obtain ⟨⟨hx, -, rfl, -⟩, ⟨_, X, -⟩, -⟩ := O; subst hq hr
  exact K.of fun _ kk => XS.ldiv X.here hx rfl hd rfl hy kk
theorem lrem (O : On l Z ws R own nm bytes maxL ret C T h cells slots) {x y r : Int64} (hd : decode bytes pc = .ok (.lrem, 1)) (hy : y ≠ 0) (hr : x % y = r) (hq : pc + 1 = q)
    (K : Go C ws Q k n (T.setTop (mkF C.m q Ls (.long r :: st)))) : Go C ws Q k n (T.setTop (mkF C.m pc Ls (.long y :: .long x :: st))) := by
  obtain ⟨⟨hx, -, rfl, -⟩, ⟨_, X, -⟩, -⟩ := O; subst hq hr; rw [← lrem_mod] at K
  exact K.of fun _ kk => XS.lrem X.here hx rfl hd rfl hy kk
theorem lshl (O : On l Z ws R own nm bytes maxL ret C T h cells slots) {x r : Int64} {y : Int32} (hd : decode bytes pc = .ok (.lshl, 1)) (hr : x <<< (y &&& 0x3f).toInt64 = r) (hq : pc + 1 = q)
    (K : Go C ws Q k n (T.setTop (mkF C.m q Ls (.long r :: st)))) : Go C ws Q k n (T.setTop (mkF C.m pc Ls (.int y :: .long x :: st))) := by
  obtain ⟨⟨hx, -, rfl, -⟩, ⟨_, X, -⟩, -⟩ := O; subst hq hr
  exact K.of fun _ kk => XS.lshl X.here hx rfl hd rfl kk
theorem lshr (O : On l Z ws R own nm bytes maxL ret C T h cells slots) {x r : Int64} {y : Int32} (hd : decode bytes pc = .ok (.lshr, 1)) (hr : x >>> (y &&& 0x3f).toInt64 = r) (hq : pc + 1 = q)
    (K : Go C ws Q k n (T.setTop (mkF C.m q Ls (.long r :: st)))) : Go C ws Q k n (T.setTop (mkF C.m pc Ls (.int y :: .long x :: st))) := by
  obtain ⟨⟨hx, -, rfl, -⟩, ⟨_, X, -⟩, -⟩ := O; subst hq hr
  exact K.of fun _ kk => XS.lshr X.here hx rfl hd rfl kk
theorem lushr (O : On l Z ws R own nm bytes maxL ret C T h cells slots) {x r : Int64} {y : Int32} (hd : decode bytes pc = .ok (.lushr, 1)) (hr : (x.toUInt64 >>> (y &&& 0x3f).toInt64.toUInt64).toInt64 = r) (hq : pc + 1 = q)
    (K : Go C ws Q k n (T.setTop (mkF C.m q Ls (.long r :: st)))) : Go C ws Q k n (T.setTop (mkF C.m pc Ls (.int y :: .long x :: st))) := by
  obtain ⟨⟨hx, -, rfl, -⟩, ⟨_, X, -⟩, -⟩ := O; subst hq hr
  exact K.of fun _ kk => XS.lushr X.here hx rfl hd rfl kk
theorem ineg (O : On l Z ws R own nm bytes maxL ret C T h cells slots) {x : Int32} {r : Int32} (hd : decode bytes pc = .ok (.ineg, 1)) (hr : -x = r) (hq : pc + 1 = q)
    (K : Go C ws Q k n (T.setTop (mkF C.m q Ls (.int r :: st)))) : Go C ws Q k n (T.setTop (mkF C.m pc Ls (.int x :: st))) := by
  obtain ⟨⟨hx, -, rfl, -⟩, ⟨_, X, -⟩, -⟩ := O; subst hq hr
  exact K.of fun _ kk => XS.ineg X.here hx rfl hd rfl kk
theorem lneg (O : On l Z ws R own nm bytes maxL ret C T h cells slots) {x : Int64} {r : Int64} (hd : decode bytes pc = .ok (.lneg, 1)) (hr : -x = r) (hq : pc + 1 = q)
    (K : Go C ws Q k n (T.setTop (mkF C.m q Ls (.long r :: st)))) : Go C ws Q k n (T.setTop (mkF C.m pc Ls (.long x :: st))) := by
  obtain ⟨⟨hx, -, rfl, -⟩, ⟨_, X, -⟩, -⟩ := O; subst hq hr
  exact K.of fun _ kk => XS.lneg X.here hx rfl hd rfl kk
theorem i2l (O : On l Z ws R own nm bytes maxL ret C T h cells slots) {x : Int32} {r : Int64} (hd : decode bytes pc = .ok (.i2l, 1)) (hr : x.toInt64 = r) (hq : pc + 1 = q)
    (K : Go C ws Q k n (T.setTop (mkF C.m q Ls (.long r :: st)))) : Go C ws Q k n (T.setTop (mkF C.m pc Ls (.int x :: st))) := by
  obtain ⟨⟨hx, -, rfl, -⟩, ⟨_, X, -⟩, -⟩ := O; subst hq hr
  exact K.of fun _ kk => XS.i2l X.here hx rfl hd rfl kk
theorem l2i (O : On l Z ws R own nm bytes maxL ret C T h cells slots) {x : Int64} {r : Int32} (hd : decode bytes pc = .ok (.l2i, 1)) (hr : x.toInt32 = r) (hq : pc + 1 = q)
    (K : Go C ws Q k n (T.setTop (mkF C.m q Ls (.int r :: st)))) : Go C ws Q k n (T.setTop (mkF C.m pc Ls (.long x :: st))) := by
  obtain ⟨⟨hx, -, rfl, -⟩, ⟨_, X, -⟩, -⟩ := O; subst hq hr
  exact K.of fun _ kk => XS.l2i X.here hx rfl hd rfl kk
theorem i2b (O : On l Z ws R own nm bytes maxL ret C T h cells slots) {x : Int32} {r : Int32} (hd : decode bytes pc = .ok (.i2b, 1)) (hr : x.toInt8.toInt32 = r) (hq : pc + 1 = q)
    (K : Go C ws Q k n (T.setTop (mkF C.m q Ls (.int r :: st)))) : Go C ws Q k n (T.setTop (mkF C.m pc Ls (.int x :: st))) := by
  obtain ⟨⟨hx, -, rfl, -⟩, ⟨_, X, -⟩, -⟩ := O; subst hq hr
  exact K.of fun _ kk => XS.i2b X.here hx rfl hd rfl kk
theorem i2c (O : On l Z ws R own nm bytes maxL ret C T h cells slots) {x : Int32} {r : Int32} (hd : decode bytes pc = .ok (.i2c, 1)) (hr : x.toUInt32.toUInt16.toUInt32.toInt32 = r) (hq : pc + 1 = q)
    (K : Go C ws Q k n (T.setTop (mkF C.m q Ls (.int r :: st)))) : Go C ws Q k n (T.setTop (mkF C.m pc Ls (.int x :: st))) := by
  obtain ⟨⟨hx, -, rfl, -⟩, ⟨_, X, -⟩, -⟩ := O; subst hq hr
  exact K.of fun _ kk => XS.i2c X.here hx rfl hd rfl kk
theorem i2s (O : On l Z ws R own nm bytes maxL ret C T h cells slots) {x : Int32} {r : Int32} (hd : decode bytes pc = .ok (.i2s, 1)) (hr : x.toInt16.toInt32 = r) (hq : pc + 1 = q)
    (K : Go C ws Q k n (T.setTop (mkF C.m q Ls (.int r :: st)))) : Go C ws Q k n (T.setTop (mkF C.m pc Ls (.int x :: st))) := by
  obtain ⟨⟨hx, -, rfl, -⟩, ⟨_, X, -⟩, -⟩ := O; subst hq hr
  exact K.of fun _ kk => XS.i2s X.here hx rfl hd rfl kk
theorem lcmp (O : On l Z ws R own nm bytes maxL ret C T h cells slots) {x y : Int64} {r : Int32} (hd : decode bytes pc = .ok (.lcmp, 1)) (hr : lcmpW x y = r) (hq : pc + 1 = q)
    (K : Go C ws Q k n (T.setTop (mkF C.m q Ls (.int r :: st)))) : Go C ws Q k n (T.setTop (mkF C.m pc Ls (.long y :: .long x :: st))) := by
  obtain ⟨⟨hx, -, rfl, -⟩, ⟨_, X, -⟩, -⟩ := O; subst hq hr
  exact K.of fun _ kk => XS.lcmp X.here hx rfl hd rfl kk
theorem iinc (O : On l Z ws R own nm bytes maxL ret C T h cells slots) {i : Nat} {cst : Int} {x : Int32} (hd : decode bytes pc = .ok (.iinc i cst, 3)) (hl : Ls[i]? = some (.val (.int x))) (hl' : storeLocals Ls i (.int (x + Int32.ofInt cst)) = some L') (hq : pc + 3 = q)
    (K : Go C ws Q k n (T.setTop (mkF C.m q L' (st)))) : Go C ws Q k n (T.setTop (mkF C.m pc Ls (st))) := by
  obtain ⟨⟨hx, -, rfl, -⟩, ⟨_, X, -⟩, -⟩ := O; subst hq
  exact K.of fun _ kk => XS.iinc X.here hx rfl hd hl hl' kk
theorem dup (O : On l Z ws R own nm bytes maxL ret C T h cells slots) {v : Value} (hd : decode bytes pc = .ok (.dup, 1)) (hc : v.category = 1) (hq : pc + 1 = q)
    (K : Go C ws Q k n (T.setTop (mkF C.m q Ls (v :: v :: st)))) : Go C ws Q k n (T.setTop (mkF C.m pc Ls (v :: st))) := by
  obtain ⟨⟨hx, -, rfl, -⟩, ⟨_, X, -⟩, -⟩ := O; subst hq
  exact K.of fun _ kk => XS.dup X.here hx rfl hd rfl hc kk
theorem pop (O : On l Z ws R own nm bytes maxL ret C T h cells slots) {v : Value} (hd : decode bytes pc = .ok (.pop, 1)) (hc : v.category = 1) (hq : pc + 1 = q)
    (K : Go C ws Q k n (T.setTop (mkF C.m q Ls (st)))) : Go C ws Q k n (T.setTop (mkF C.m pc Ls (v :: st))) := by
  obtain ⟨⟨hx, -, rfl, -⟩, ⟨_, X, -⟩, -⟩ := O; subst hq
  exact K.of fun _ kk => XS.pop X.here hx rfl hd rfl hc kk
theorem dup_x1 (O : On l Z ws R own nm bytes maxL ret C T h cells slots) {v w : Value} (hd : decode bytes pc = .ok (.dup_x1, 1)) (hc : v.category = 1) (hc' : w.category = 1) (hq : pc + 1 = q)
    (K : Go C ws Q k n (T.setTop (mkF C.m q Ls (v :: w :: v :: st)))) : Go C ws Q k n (T.setTop (mkF C.m pc Ls (v :: w :: st))) := by
  obtain ⟨⟨hx, -, rfl, -⟩, ⟨_, X, -⟩, -⟩ := O; subst hq
  exact K.of fun _ kk => XS.dupX1 X.here hx rfl hd rfl hc hc' kk
theorem dup2 (O : On l Z ws R own nm bytes maxL ret C T h cells slots) {v w : Value} (hd : decode bytes pc = .ok (.dup2, 1)) (hc : v.category = 1) (hc' : w.category = 1) (hq : pc + 1 = q)
    (K : Go C ws Q k n (T.setTop (mkF C.m q Ls (v :: w :: v :: w :: st)))) : Go C ws Q k n (T.setTop (mkF C.m pc Ls (v :: w :: st))) := by
  obtain ⟨⟨hx, -, rfl, -⟩, ⟨_, X, -⟩, -⟩ := O; subst hq
  exact K.of fun _ kk => XT.dup2 X.here hx rfl hd rfl hc hc' kk
theorem dup2L (O : On l Z ws R own nm bytes maxL ret C T h cells slots) {v : Int64} (hd : decode bytes pc = .ok (.dup2, 1))  (hq : pc + 1 = q)
    (K : Go C ws Q k n (T.setTop (mkF C.m q Ls (.long v :: .long v :: st)))) : Go C ws Q k n (T.setTop (mkF C.m pc Ls (.long v :: st))) := by
  obtain ⟨⟨hx, -, rfl, -⟩, ⟨_, X, -⟩, -⟩ := O; subst hq
  exact K.of fun _ kk => XT.dup2L X.here hx rfl hd rfl kk
theorem goto (O : On l Z ws R own nm bytes maxL ret C T h cells slots)  {o : Int} (hd : decode bytes pc = .ok (.goto o, 3))  (ho : 0 ≤ (pc : Int) + o) (hq : ((pc : Int) + o).toNat = q)
    (K : Go C ws Q k n (T.setTop (mkF C.m q Ls st))) : Go C ws Q k n (T.setTop (mkF C.m pc Ls (st))) := by
  obtain ⟨⟨hx, -, rfl, -⟩, ⟨_, X, -⟩, -⟩ := O
  exact K.of fun _ kk => XS.goto X.here hx rfl (pc0 := pc) (pc' := q) rfl hd  ho hq kk
theorem ifYes (O : On l Z ws R own nm bytes maxL ret C T h cells slots) {cd : ClassFile.Cond} {x : Int32} {o : Int} (hd : decode bytes pc = .ok (.ifCond cd o, 3)) (hc : ifCond.holds cd x = true) (ho : 0 ≤ (pc : Int) + o) (hq : ((pc : Int) + o).toNat = q)
    (K : Go C ws Q k n (T.setTop (mkF C.m q Ls st))) : Go C ws Q k n (T.setTop (mkF C.m pc Ls (.int x :: st))) := by
  obtain ⟨⟨hx, -, rfl, -⟩, ⟨_, X, -⟩, -⟩ := O
  exact K.of fun _ kk => XS.ifYes X.here hx rfl (pc0 := pc) (pc' := q) rfl hd rfl hc ho hq kk
theorem icmpYes (O : On l Z ws R own nm bytes maxL ret C T h cells slots) {cd : ClassFile.Cond} {x y : Int32} {o : Int} (hd : decode bytes pc = .ok (.if_icmp cd o, 3)) (hc : if_icmp.holds cd x y = true) (ho : 0 ≤ (pc : Int) + o) (hq : ((pc : Int) + o).toNat = q)
    (K : Go C ws Q k n (T.setTop (mkF C.m q Ls st))) : Go C ws Q k n (T.setTop (mkF C.m pc Ls (.int y :: .int x :: st))) := by
  obtain ⟨⟨hx, -, rfl, -⟩, ⟨_, X, -⟩, -⟩ := O
  exact K.of fun _ kk => XS.icmpYes X.here hx rfl (pc0 := pc) (pc' := q) rfl hd rfl hc ho hq kk
theorem ifnullYes (O : On l Z ws R own nm bytes maxL ret C T h cells slots)  {o : Int} (hd : decode bytes pc = .ok (.ifnull o, 3))  (ho : 0 ≤ (pc : Int) + o) (hq : ((pc : Int) + o).toNat = q)
    (K : Go C ws Q k n (T.setTop (mkF C.m q Ls st))) : Go C ws Q k n (T.setTop (mkF C.m pc Ls (.null :: st))) := by
  obtain ⟨⟨hx, -, rfl, -⟩, ⟨_, X, -⟩, -⟩ := O
  exact K.of fun _ kk => XS.ifnullYes X.here hx rfl (pc0 := pc) (pc' := q) rfl hd rfl ho hq kk
theorem ifnonnullYes (O : On l Z ws R own nm bytes maxL ret C T h cells slots) {b : Addr} {o : Int} (hd : decode bytes pc = .ok (.ifnonnull o, 3))  (ho : 0 ≤ (pc : Int) + o) (hq : ((pc : Int) + o).toNat = q)
    (K : Go C ws Q k n (T.setTop (mkF C.m q Ls st))) : Go C ws Q k n (T.setTop (mkF C.m pc Ls (.ref b :: st))) := by
  obtain ⟨⟨hx, -, rfl, -⟩, ⟨_, X, -⟩, -⟩ := O
  exact K.of fun _ kk => XS.ifnonnullYes X.here hx rfl (pc0 := pc) (pc' := q) rfl hd rfl ho hq kk
theorem ifNo (O : On l Z ws R own nm bytes maxL ret C T h cells slots) {cd : ClassFile.Cond} {x : Int32} {o : Int} (hd : decode bytes pc = .ok (.ifCond cd o, 3)) (hc : ifCond.holds cd x = false) (hq : pc + 3 = q)
    (K : Go C ws Q k n (T.setTop (mkF C.m q Ls (st)))) : Go C ws Q k n (T.setTop (mkF C.m pc Ls (.int x :: st))) := by
  obtain ⟨⟨hx, -, rfl, -⟩, ⟨_, X, -⟩, -⟩ := O; subst hq
  exact K.of fun _ kk => XS.ifNo X.here hx rfl hd rfl hc kk
theorem icmpNo (O : On l Z ws R own nm bytes maxL ret C T h cells slots) {cd : ClassFile.Cond} {x y : Int32} {o : Int} (hd : decode bytes pc = .ok (.if_icmp cd o, 3)) (hc : if_icmp.holds cd x y = false) (hq : pc + 3 = q)
    (K : Go C ws Q k n (T.setTop (mkF C.m q Ls (st)))) : Go C ws Q k n (T.setTop (mkF C.m pc Ls (.int y :: .int x :: st))) := by
  obtain ⟨⟨hx, -, rfl, -⟩, ⟨_, X, -⟩, -⟩ := O; subst hq
  exact K.of fun _ kk => XS.icmpNo X.here hx rfl hd rfl hc kk
theorem ifnullNo (O : On l Z ws R own nm bytes maxL ret C T h cells slots) {b : Addr} {o : Int} (hd : decode bytes pc = .ok (.ifnull o, 3))  (hq : pc + 3 = q)
    (K : Go C ws Q k n (T.setTop (mkF C.m q Ls (st)))) : Go C ws Q k n (T.setTop (mkF C.m pc Ls (.ref b :: st))) := by
  obtain ⟨⟨hx, -, rfl, -⟩, ⟨_, X, -⟩, -⟩ := O; subst hq
  exact K.of fun _ kk => XS.ifnullNo X.here hx rfl hd rfl kk
theorem ifnonnullNo (O : On l Z ws R own nm bytes maxL ret C T h cells slots) {o : Int} (hd : decode bytes pc = .ok (.ifnonnull o, 3))  (hq : pc + 3 = q)
    (K : Go C ws Q k n (T.setTop (mkF C.m q Ls (st)))) : Go C ws Q k n (T.setTop (mkF C.m pc Ls (.null :: st))) := by
  obtain ⟨⟨hx, -, rfl, -⟩, ⟨_, X, -⟩, -⟩ := O; subst hq
  exact K.of fun _ kk => XS.ifnonnullNo X.here hx rfl hd rfl kk
theorem acmp (O : On l Z ws R own nm bytes maxL ret C T h cells slots) {cd : ACond} {x y : Value} {o : Int} {same : Bool} (hd : decode bytes pc = .ok (.if_acmp cd o, 3)) (h1 : x.isRef = true) (h2 : y.isRef = true) (hs : decide (x = y) = same) (ho : 0 ≤ (pc : Int) + o) (hq : q = if acV cd same = true then ((pc : Int) + o).toNat else pc + 3)
    (K : Go C ws Q k n (T.setTop (mkF C.m q Ls st))) : Go C ws Q k n (T.setTop (mkF C.m pc Ls (y :: x :: st))) := by
  obtain ⟨⟨hx, -, rfl, -⟩, ⟨_, X, -⟩, -⟩ := O
  exact K.of fun _ kk => Jvm.RoadKit.acmp (g := mkF C.m pc Ls (y :: x :: st)) X hx rfl h1 h2 (pc0 := pc) (pc' := q) rfl hd rfl hs ho hq kk
theorem ldcI (O : On l Z ws R own nm bytes maxL ret C T h cells slots) {i : Nat} {v : Int32} (hd : decode bytes pc = .ok (.ldc i, 2)) (w : (Cond.constant own i v).before a0 Z = true) (hq : pc + 2 = q)
    (K : Go C ws Q k n (T.setTop (mkF C.m q Ls (.int v :: st)))) : Go C ws Q k n (T.setTop (mkF C.m pc Ls st)) := by
  obtain ⟨⟨hx, hZ, rfl, -, hown, -⟩, ⟨_, X, -⟩, -⟩ := O; subst hq
  exact K.of fun _ kk => X.ldcInt hx hown (mvT hZ w) (g := mkF C.m pc Ls st) rfl hd _ kk
theorem ldcwI (O : On l Z ws R own nm bytes maxL ret C T h cells slots) {i : Nat} {v : Int32} (hd : decode bytes pc = .ok (.ldc_w i, 3)) (w : (Cond.constant own i v).before a0 Z = true) (hq : pc + 3 = q)
    (K : Go C ws Q k n (T.setTop (mkF C.m q Ls (.int v :: st)))) : Go C ws Q k n (T.setTop (mkF C.m pc Ls st)) := by
  obtain ⟨⟨hx, hZ, rfl, -, hown, -⟩, ⟨_, X, -⟩, -⟩ := O; subst hq
  exact K.of fun _ kk => X.ldcwInt hx hown (mvT hZ w) (g := mkF C.m pc Ls st) rfl hd _ kk
theorem ldcL (O : On l Z ws R own nm bytes maxL ret C T h cells slots) {i : Nat} {v : Int64} (hd : decode bytes pc = .ok (.ldc2_w i, 3)) (w : (Cond.constantLong own i v).before a0 Z = true) (hq : pc + 3 = q)
    (K : Go C ws Q k n (T.setTop (mkF C.m q Ls (.long v :: st)))) : Go C ws Q k n (T.setTop (mkF C.m pc Ls st)) := by
  obtain ⟨⟨hx, hZ, rfl, -, hown, -⟩, ⟨_, X, -⟩, -⟩ := O; subst hq
  exact K.of fun _ kk => X.ldc2Long hx hown (mvT hZ w) (g := mkF C.m pc Ls st) rfl hd _ kk
theorem getF (O : On l Z ws R own nm bytes maxL ret C T h cells slots) {i : Nat} {R0 D f d host : String} {a : Addr} {v : Value} (hd : decode bytes pc = .ok (.getfield i, 3)) (w : (Cond.fieldLink own i R0 f d).before a0 Z = true ∨ (Cond.fieldLinkNest own i R0 f d host).before a0 Z = true) (via : Via Z R0 D f d) (F : Fld Z h a D f d v) (hq : pc + 3 = q)
    (K : ∀ T', On l Z ws R own nm bytes maxL ret C T' h cells slots → Go C ws Q k n (T'.setTop (mkF C.m q Ls (v :: st)))) : Go C ws Q k n (T.setTop (mkF C.m pc Ls (.ref a :: st))) := by
  obtain ⟨⟨hx, hZ, rfl, r1, hown, r2⟩, ⟨_, X, N⟩, eT⟩ := O; subst hq
  obtain ⟨T', X', e', stp⟩ := Jvm.RoadKit.getF X hx hZ hown w via eT F (g := mkF C.m pc Ls (.ref a :: st)) rfl rfl hd
  exact (K T' ⟨⟨hx, hZ, rfl, r1, hown, r2⟩, ⟨_, X', N⟩, e'⟩).of fun _ kk => stp _ kk
theorem getS (O : On l Z ws R own nm bytes maxL ret C T h cells slots) {i : Nat} {D f d : String} {v : Value} (hd : decode bytes pc = .ok (.getstatic i, 3)) (w : (Cond.fieldLink own i D f d).before a0 Z = true) (F : Sta Z h D f d v) (hq : pc + 3 = q)
    (K : ∀ T', On l Z ws R own nm bytes maxL ret C T' h cells slots → Go C ws Q k n (T'.setTop (mkF C.m q Ls (v :: st)))) : Go C ws Q k n (T.setTop (mkF C.m pc Ls st)) := by
  obtain ⟨⟨hx, hZ, rfl, r1, hown, r2⟩, ⟨_, X, N⟩, eT⟩ := O; subst hq
  obtain ⟨T', X', e', stp⟩ := Jvm.RoadKit.getS (host := "") X hx hZ hown w Via.refl eT F (g := mkF C.m pc Ls st) rfl hd
  exact (K T' ⟨⟨hx, hZ, rfl, r1, hown, r2⟩, ⟨_, X', N⟩, e'⟩).of fun _ kk => stp _ kk
theorem putF (O : On l Z ws R own nm bytes maxL ret C T h cells slots) {i kk : Nat} {R0 D f d host K0 : String} {ty : FieldType} {a : Addr} {v old : Value} (hd : decode bytes pc = .ok (.putfield i, 3)) (w : (Cond.fieldLink own i R0 f d).before a0 Z = true ∨ (Cond.fieldLinkNest own i R0 f d host).before a0 Z = true) (via : Via Z R0 D f d)
    (F : Fld Z h a D f d old) (E : Exa Z h a K0) (L : (Cond.lays K0 D f d).before a0 Z = true ∨ ((Cond.laysFinal K0 D f d).before a0 Z = true ∧ own = D ∧ nm = "<init>")) (wi : (Cond.instantiable K0 kk).before a0 Z = true) (hty : parseFieldDescriptor d = some ty) (hn : narrow ty v = v) (hf : fits ty v = true) (ha : a ∈ ws ∨ C.s.heap.size ≤ a) (hq : pc + 3 = q)
    (K : ∀ T' h', On l Z ws R own nm bytes maxL ret C T' h' cells slots → Wr h h' a (Jvm.RoadKit.slotOf Z D f d) v → Go C ws Q k n (T'.setTop (mkF C.m q Ls st))) : Go C ws Q k n (T.setTop (mkF C.m pc Ls (v :: .ref a :: st))) := by
  obtain ⟨⟨hx, hZ, rfl, r1, hown, hnm, r2⟩, ⟨_, X, N⟩, eT⟩ := O; subst hq
  obtain ⟨T', h', X', e', W, stp⟩ := Jvm.RoadKit.putF X hx hZ hown w via eT F E (L.imp id fun q => ⟨q.1, q.2.1, hnm.trans q.2.2⟩) wi hty hn hf (g := mkF C.m pc Ls (v :: .ref a :: st)) rfl rfl hd
  exact (K T' h' ⟨⟨hx, hZ, rfl, r1, hown, hnm, r2⟩, ⟨_, X', N.snoc ha⟩, e'⟩ W).of fun _ kk => stp _ kk
theorem newO (O : On l Z ws R own nm bytes maxL ret C T h cells slots) {i ns c2 s2 : Nat} {K0 : String} (hd : decode bytes pc = .ok (.new i, 3)) (w : (Cond.classLink own i K0).before a0 Z = true) (wi : (Cond.instantiable K0 ns).before a0 Z = true) (wz : (Cond.initialized K0).before a0 Z = true) (hc2 : cells + 1 = c2) (hs2 : slots + ns = s2) (hc : c2 ≤ R.cells) (hl : s2 ≤ R.slots) (hq : pc + 3 = q)
    (K : ∀ a T' h', a = h.size → C.s.heap.size ≤ a → On l Z ws R own nm bytes maxL ret C T' h' c2 s2 → Ext h h' → Exa Z h' a K0 → (∀ {O nm d : String} {ty : FieldType}, Laid Z a0 K0 O nm d → parseFieldDescriptor d = some ty → Fld Z h' a O nm d (defaultValue ty)) → Go C ws Q k n (T'.setTop (mkF C.m q Ls (.ref a :: st)))) : Go C ws Q k n (T.setTop (mkF C.m pc Ls st)) := by
  obtain ⟨⟨hx, hZ, rfl, r1, hown, r2⟩, ⟨_, X, N⟩, eT⟩ := O; subst hq hc2 hs2
  obtain ⟨T', h', X', e', E, A, D, -, stp⟩ := Jvm.RoadKit.newO X hx hZ hown w wi wz eT (g := mkF C.m pc Ls st) rfl hd hc hl
  exact (K _ T' h' rfl (eT ▸ X.same.2.1) ⟨⟨hx, hZ, rfl, r1, hown, r2⟩, ⟨_, X', N⟩, e'⟩ E A D).of fun _ kk => stp _ kk
theorem newP (O : On l Z ws R own nm bytes maxL ret C T h cells slots) {aty : ArrayType} {c2 s2 : Nat} (hd : decode bytes pc = .ok (.newarray aty, 2)) (w : (Cond.arrayClass (newarray.typeOf aty)).before a0 Z = true) {z : Int32} (hn : ¬ z < 0) {cap : Nat} (hcap : z.toNatClampNeg ≤ cap) (hb : cap * 8 ≤ 536870912) (hc2 : cells + 1 = c2) (hs2 : slots + cap = s2) (hc : c2 ≤ R.cells) (hl : s2 ≤ R.slots) (hq : pc + 2 = q)
    (K : ∀ a T' h' cA, a = h.size → C.s.heap.size ≤ a → On l Z ws R own nm bytes maxL ret C T' h' c2 s2 → Ext h h' → Arr Z h' a (newA cA (newarray.typeOf aty) z) (newarray.typeOf aty) → Go C ws Q k n (T'.setTop (mkF C.m q Ls (.ref a :: st)))) : Go C ws Q k n (T.setTop (mkF C.m pc Ls (.int z :: st))) := by
  obtain ⟨⟨hx, hZ, rfl, r1, hown, r2⟩, ⟨_, X, N⟩, eT⟩ := O; subst hq hc2 hs2
  obtain ⟨T', h', cA, X', e', E, A, stp⟩ := Jvm.RoadKit.newP X hx hZ w eT (g := mkF C.m pc Ls (.int z :: st)) rfl hd rfl hn hcap hb hc hl
  exact (K _ T' h' cA rfl (eT ▸ X.same.2.1) ⟨⟨hx, hZ, rfl, r1, hown, r2⟩, ⟨_, X', N⟩, e'⟩ E A).of fun _ kk => stp _ kk
theorem initO (O : On l Z ws R own nm bytes maxL ret C T h cells slots) {i : Nat} {a : Addr} (hd : decode bytes pc = .ok (.invokespecial i, 3)) (w1 : (Cond.methodLink own i Lib.objectInit).before a0 Z = true) (w2 : (Cond.instanceMethod Lib.objectInit).before a0 Z = true) (w3 : (Cond.code Lib.objectInit ⟨#[0xb1]⟩ 1 none).before a0 Z = true) (hsz : Ls.size = maxL) (hf : 1 ≤ R.frames) {W : Nat} (hW : (st.map fun v => v.category).sum ≤ W) (hl : W + 12 ≤ R.locals) (hq : pc + 3 = q)
    (K : ∀ T', On l Z ws R own nm bytes maxL ret C T' h cells slots → Go C ws Q k n (T'.setTop (mkF C.m q Ls st))) : Go C ws Q k n (T.setTop (mkF C.m pc Ls (.ref a :: st))) := by
  obtain ⟨⟨hx, hZ, rfl, r1, hown, r2⟩, ⟨_, X, N⟩, eT⟩ := O; subst hq
  obtain ⟨T', X', e', stp⟩ := Jvm.RoadKit.initO X hx hZ hown w1 w2 w3 eT (g := mkF C.m pc Ls (.ref a :: st)) rfl (hsz.trans r1.symm) rfl hd hf (W := W) (by show 2 * 0 + _ ≤ _; rw [Nat.mul_zero, Nat.zero_add]; exact hW) hl
  exact (K T' ⟨⟨hx, hZ, rfl, r1, hown, r2⟩, ⟨_, X', N⟩, e'⟩).of fun _ kk => stp _ kk
theorem iaload (O : On l Z ws R own nm bytes maxL ret C T h cells slots) {a : Addr} {cl : Cell} {j : Int32} {v : Value} (hd : decode bytes pc = .ok (.iaload, 1)) (A : Arr Z h a cl .int) (hin : ¬ (j < 0 ∨ cl.slots.size ≤ j.toNatClampNeg)) (hv : cl.slots[j.toNatClampNeg]? = some v) (hq : pc + 1 = q)
    (K : Go C ws Q k n (T.setTop (mkF C.m q Ls (v :: st)))) : Go C ws Q k n (T.setTop (mkF C.m pc Ls (.int j :: .ref a :: st))) := by
  obtain ⟨⟨hx, hZ, rfl, -⟩, ⟨_, X, N⟩, eT⟩ := O; subst hq
  exact K.of fun _ kk => X.iaload hx (by rw [eT]; exact A.1) (State.isArrayOf_alike hZ.alike A.2.1) A.2.2 hin hv (g := mkF C.m pc Ls (.int j :: .ref a :: st)) rfl rfl hd _ kk
theorem laload (O : On l Z ws R own nm bytes maxL ret C T h cells slots) {a : Addr} {cl : Cell} {j : Int32} {v : Value} (hd : decode bytes pc = .ok (.laload, 1)) (A : Arr Z h a cl .long) (hin : ¬ (j < 0 ∨ cl.slots.size ≤ j.toNatClampNeg)) (hv : cl.slots[j.toNatClampNeg]? = some v) (hq : pc + 1 = q)
    (K : Go C ws Q k n (T.setTop (mkF C.m q Ls (v :: st)))) : Go C ws Q k n (T.setTop (mkF C.m pc Ls (.int j :: .ref a :: st))) := by
  obtain ⟨⟨hx, hZ, rfl, -⟩, ⟨_, X, N⟩, eT⟩ := O; subst hq
  exact K.of fun _ kk => X.laload hx (by rw [eT]; exact A.1) (State.isArrayOf_alike hZ.alike A.2.1) A.2.2 hin hv (g := mkF C.m pc Ls (.int j :: .ref a :: st)) rfl rfl hd _ kk
theorem baload (O : On l Z ws R own nm bytes maxL ret C T h cells slots) {a : Addr} {cl : Cell} {j : Int32} {v : Value} (hd : decode bytes pc = .ok (.baload, 1)) (A : Arr Z h a cl .byte) (hin : ¬ (j < 0 ∨ cl.slots.size ≤ j.toNatClampNeg)) (hv : cl.slots[j.toNatClampNeg]? = some v) (hq : pc + 1 = q)
    (K : Go C ws Q k n (T.setTop (mkF C.m q Ls (v :: st)))) : Go C ws Q k n (T.setTop (mkF C.m pc Ls (.int j :: .ref a :: st))) := by
  obtain ⟨⟨hx, hZ, rfl, -⟩, ⟨_, X, N⟩, eT⟩ := O; subst hq
  exact K.of fun _ kk => X.baloadBytes hx (by rw [eT]; exact A.1) (State.isArrayOf_alike hZ.alike A.2.1) A.2.2 hin hv (g := mkF C.m pc Ls (.int j :: .ref a :: st)) rfl rfl hd _ kk
theorem aaload (O : On l Z ws R own nm bytes maxL ret C T h cells slots) {a : Addr} {cl : Cell} {ty : FieldType} {j : Int32} {v : Value} (hd : decode bytes pc = .ok (.aaload, 1)) (A : Arr Z h a cl ty) (hty : ty.isReference = true) (hin : ¬ (j < 0 ∨ cl.slots.size ≤ j.toNatClampNeg)) (hv : cl.slots[j.toNatClampNeg]? = some v) (hq : pc + 1 = q)
    (K : Go C ws Q k n (T.setTop (mkF C.m q Ls (v :: st)))) : Go C ws Q k n (T.setTop (mkF C.m pc Ls (.int j :: .ref a :: st))) := by
  obtain ⟨⟨hx, hZ, rfl, -⟩, ⟨_, X, N⟩, eT⟩ := O; subst hq
  exact K.of fun _ kk => X.aaload hx (by rw [eT]; exact A.1) (State.isArrayOf_alike hZ.alike A.2.1) hty A.2.2 hin hv (g := mkF C.m pc Ls (.int j :: .ref a :: st)) rfl rfl hd _ kk
theorem arraylength (O : On l Z ws R own nm bytes maxL ret C T h cells slots) {a : Addr} {cl : Cell} {ty : FieldType} {z : Int32} (hd : decode bytes pc = .ok (.arraylength, 1)) (A : Arr Z h a cl ty) (hz : cl.slots.size.toInt32 = z) (hq : pc + 1 = q)
    (K : Go C ws Q k n (T.setTop (mkF C.m q Ls (.int z :: st)))) : Go C ws Q k n (T.setTop (mkF C.m pc Ls (.ref a :: st))) := by
  obtain ⟨⟨hx, hZ, rfl, -⟩, ⟨_, X, N⟩, eT⟩ := O; subst hq hz
  exact K.of fun _ kk => X.arraylength hx (by rw [eT]; exact A.1) (State.isArrayOf_alike hZ.alike A.2.1) (g := mkF C.m pc Ls (.ref a :: st)) rfl rfl hd _ kk
theorem iastore (O : On l Z ws R own nm bytes maxL ret C T h cells slots) {a : Addr} {cl : Cell} {j : Int32} {x : Int32} (hd : decode bytes pc = .ok (.iastore, 1)) (A : Arr Z h a cl .int) (hin : ¬ (j < 0 ∨ cl.slots.size ≤ j.toNatClampNeg)) (ha : a ∈ ws ∨ C.s.heap.size ≤ a) (hq : pc + 1 = q)
    (K : ∀ T' h', On l Z ws R own nm bytes maxL ret C T' h' cells slots → Wr h h' a j.toNatClampNeg (.int x) → Go C ws Q k n (T'.setTop (mkF C.m q Ls st))) : Go C ws Q k n (T.setTop (mkF C.m pc Ls (.int x :: .int j :: .ref a :: st))) := by
  obtain ⟨⟨hx, hZ, rfl, r1, hown, r2⟩, ⟨_, X, N⟩, eT⟩ := O; subst hq
  obtain ⟨T', h', X', e', W, stp⟩ := Jvm.RoadKit.stI X hx hZ eT A hin (g := mkF C.m pc Ls (.int x :: .int j :: .ref a :: st)) rfl rfl hd
  exact (K T' h' ⟨⟨hx, hZ, rfl, r1, hown, r2⟩, ⟨_, X', N.snoc ha⟩, e'⟩ W).of fun _ kk => stp _ kk
theorem lastore (O : On l Z ws R own nm bytes maxL ret C T h cells slots) {a : Addr} {cl : Cell} {j : Int32} {x : Int64} (hd : decode bytes pc = .ok (.lastore, 1)) (A : Arr Z h a cl .long) (hin : ¬ (j < 0 ∨ cl.slots.size ≤ j.toNatClampNeg)) (ha : a ∈ ws ∨ C.s.heap.size ≤ a) (hq : pc + 1 = q)
    (K : ∀ T' h', On l Z ws R own nm bytes maxL ret C T' h' cells slots → Wr h h' a j.toNatClampNeg (.long x) → Go C ws Q k n (T'.setTop (mkF C.m q Ls st))) : Go C ws Q k n (T.setTop (mkF C.m pc Ls (.long x :: .int j :: .ref a :: st))) := by
  obtain ⟨⟨hx, hZ, rfl, r1, hown, r2⟩, ⟨_, X, N⟩, eT⟩ := O; subst hq
  obtain ⟨T', h', X', e', W, stp⟩ := Jvm.RoadKit.stJ X hx hZ eT A hin (g := mkF C.m pc Ls (.long x :: .int j :: .ref a :: st)) rfl rfl hd
  exact (K T' h' ⟨⟨hx, hZ, rfl, r1, hown, r2⟩, ⟨_, X', N.snoc ha⟩, e'⟩ W).of fun _ kk => stp _ kk
theorem bastore (O : On l Z ws R own nm bytes maxL ret C T h cells slots) {a : Addr} {cl : Cell} {j : Int32} {x : Int32} (hd : decode bytes pc = .ok (.bastore, 1)) (A : Arr Z h a cl .byte) (hin : ¬ (j < 0 ∨ cl.slots.size ≤ j.toNatClampNeg)) (ha : a ∈ ws ∨ C.s.heap.size ≤ a) (hq : pc + 1 = q)
    (K : ∀ T' h', On l Z ws R own nm bytes maxL ret C T' h' cells slots → Wr h h' a j.toNatClampNeg (.int (nar .byte x)) → Go C ws Q k n (T'.setTop (mkF C.m q Ls st))) : Go C ws Q k n (T.setTop (mkF C.m pc Ls (.int x :: .int j :: .ref a :: st))) := by
  obtain ⟨⟨hx, hZ, rfl, r1, hown, r2⟩, ⟨_, X, N⟩, eT⟩ := O; subst hq
  obtain ⟨T', h', X', e', W, stp⟩ := Jvm.RoadKit.stB X hx hZ eT A hin (g := mkF C.m pc Ls (.int x :: .int j :: .ref a :: st)) rfl rfl hd
  exact (K T' h' ⟨⟨hx, hZ, rfl, r1, hown, r2⟩, ⟨_, X', N.snoc ha⟩, e'⟩ W).of fun _ kk => stp _ kk
theorem callS (O : On l Z ws R own nm bytes maxL ret C T h cells slots) {i : Nat} {y : MethodName} {yb : ByteArray} {yl : Nat} {yr : Option FieldType} {rm : Room} {argsL rest : List Value} {wsc : List Addr} {Qc : Option Value → Heap → Prop} {ps : List FieldType} {rr : Option FieldType} {W c2 s2 : Nat}
    (hd : decode bytes pc = .ok (.invokestatic i, 3)) (w1 : (Cond.methodLink own i y).before a0 Z = true) (w2 : (Cond.static y).before a0 Z = true) (w3 : (Cond.initialized y.cls).before a0 Z = true) (w4 : (Cond.code y yb yl yr).before a0 Z = true) (hy : y.cls ≠ "java/lang/invoke/MethodHandle" ∧ y.cls ≠ "java/lang/invoke/VarHandle")
    (hM : Met l Z y yb yl yr [] rm (argsL).toArray wsc h Qc) (hsz : Ls.size = maxL) (hpd : parseMethodDescriptor y.desc = some ⟨ps, rr⟩) (hlen : argsL.length = ps.length) (hst : st = argsL.reverse ++ rest) (hW : (rest.map fun v => v.category).sum ≤ W)
    (hf : rm.frames + 1 ≤ R.frames) (hl : W + (yl + 11) + rm.locals ≤ R.locals) (hc2 : cells + rm.cells = c2) (hs2 : slots + rm.slots = s2) (hcl : c2 ≤ R.cells) (hsl : s2 ≤ R.slots) (hws : ∀ x ∈ wsc, x ∈ ws ∨ C.s.heap.size ≤ x) (hq : pc + 3 = q)
    (K : ∀ v T' h', On l Z ws R own nm bytes maxL ret C T' h' c2 s2 → Keep h h' wsc → Qc v h' → Go C ws Q k n (T'.setTop (mkF C.m q Ls (v.toList ++ rest)))) : Go C ws Q k n (T.setTop (mkF C.m pc Ls st)) := by
  obtain ⟨⟨hx, hZ, rfl, r1, hown, r2⟩, ⟨locs, X, N⟩, eT⟩ := O; subst hq hc2 hs2
  obtain ⟨v, _, ⟨T', L', k', n'⟩, -, X', ⟨Lc, hQ, l', y', z'⟩, stp⟩ := Jvm.LawKit.callS X hx (y := y) hown (mvT hZ w1) (mvT hZ w2) (mvT hZ w3) (mvT hZ w4) hy (backOf (W := W) (Q := Post wsc rm.cells h Qc) hM hZ w4 w3 hf hl) (g := mkF C.m pc Ls st) rfl (hsz.trans r1.symm) (argsL := argsL) (rest := rest) (lenOf hpd hlen) hst (by show 2 * 0 + _ ≤ _; rw [Nat.mul_zero, Nat.zero_add]; exact hW) hd (fun _ _ => ⟨rfl, eT, hcl, hsl⟩)
  dsimp only [Pt.U, Pt.locs, Pt.cells, Pt.slots] at X' l' y' z' stp hQ
  subst l' y' z'
  obtain ⟨hF, hK, hE, hQ⟩ := hQ
  have hb : C.s.heap.size ≤ h.size := eT ▸ X.same.2.1
  exact (K v T' T'.heap ⟨⟨hx, hZ, rfl, r1, hown, r2⟩, ⟨_, X', N.app fun y hy => (hF y hy).elim (hws _) fun z => Or.inr (Nat.le_trans hb z)⟩, rfl⟩ hK hQ).of fun _ kk => stp _ kk
theorem callS0 (O : On l Z ws R own nm bytes maxL ret C T h cells slots) {i : Nat} {y : MethodName} {yb : ByteArray} {yl : Nat} {yr : Option FieldType} {rm : Room} {argsL rest : List Value} {wsc : List Addr} {Qc : Option Value → Heap → Prop} {ps : List FieldType} {rr : Option FieldType} {W c2 s2 : Nat}
    (hd : decode bytes pc = .ok (.invokestatic i, 3)) (w1 : (Cond.methodLink own i y).before a0 Z = true) (w2 : (Cond.static y).before a0 Z = true) (w3 : (Cond.initialized y.cls).before a0 Z = true) (w4 : (Cond.code y yb yl yr).before a0 Z = true) (hy : y.cls ≠ "java/lang/invoke/MethodHandle" ∧ y.cls ≠ "java/lang/invoke/VarHandle")
    (hM : Met l Z y yb yl yr [] rm (argsL).toArray wsc h Qc) (hsz : Ls.size = maxL) (hpd : parseMethodDescriptor y.desc = some ⟨ps, rr⟩) (hlen : argsL.length = ps.length) (hst : st = argsL.reverse ++ rest) (hW : (rest.map fun v => v.category).sum ≤ W)
    (hf : rm.frames + 1 ≤ R.frames) (hl : W + (yl + 11) + rm.locals ≤ R.locals) (hc2 : cells + rm.cells = c2) (hs2 : slots + rm.slots = s2) (hcl : c2 ≤ R.cells) (hsl : s2 ≤ R.slots) (hrc : rm.cells = 0) (hwc : wsc = []) (hq : pc + 3 = q)
    (K : ∀ v T', On l Z ws R own nm bytes maxL ret C T' h c2 s2 → Qc v h → Go C ws Q k n (T'.setTop (mkF C.m q Ls (v.toList ++ rest)))) : Go C ws Q k n (T.setTop (mkF C.m pc Ls st)) := by
  obtain ⟨⟨hx, hZ, rfl, r1, hown, r2⟩, ⟨locs, X, N⟩, eT⟩ := O; subst hq hc2 hs2
  obtain ⟨v, _, ⟨T', L', k', n'⟩, -, X', ⟨Lc, hQ, l', y', z'⟩, stp⟩ := Jvm.LawKit.callS X hx (y := y) hown (mvT hZ w1) (mvT hZ w2) (mvT hZ w3) (mvT hZ w4) hy (backOf (W := W) (Q := Post wsc rm.cells h Qc) hM hZ w4 w3 hf hl) (g := mkF C.m pc Ls st) rfl (hsz.trans r1.symm) (argsL := argsL) (rest := rest) (lenOf hpd hlen) hst (by show 2 * 0 + _ ≤ _; rw [Nat.mul_zero, Nat.zero_add]; exact hW) hd (fun _ _ => ⟨rfl, eT, hcl, hsl⟩)
  dsimp only [Pt.U, Pt.locs, Pt.cells, Pt.slots] at X' l' y' z' stp hQ
  subst l' y' z'
  obtain ⟨hF, hK, hE, hQ⟩ := hQ
  have hb : C.s.heap.size ≤ h.size := eT ▸ X.same.2.1
  have he : T'.heap = h := hE hrc hwc
  refine (K v T' ⟨⟨hx, hZ, rfl, r1, hown, r2⟩, ⟨_, X', N.app fun y hy => (hF y hy).elim (fun z => by rw [hwc] at z; cases z) fun z => Or.inr (Nat.le_trans hb z)⟩, he⟩ (he ▸ hQ)).of fun _ kk => stp _ kk
theorem callI (O : On l Z ws R own nm bytes maxL ret C T h cells slots) {i : Nat} {y : MethodName} {yb : ByteArray} {yl : Nat} {rm : Room} {argsL rest : List Value} {wsc : List Addr} {Qc : Option Value → Heap → Prop} {ps : List FieldType} {rr : Option FieldType} {W c2 s2 : Nat} {a : Addr}
    (hd : decode bytes pc = .ok (.invokespecial i, 3)) (hy1 : y.name = "<init>") (w1 : (Cond.methodLink own i y).before a0 Z = true) (w2 : (Cond.instanceMethod y).before a0 Z = true) (w3 : (Cond.initialized y.cls).before a0 Z = true) (w4 : (Cond.code y yb yl none).before a0 Z = true) (hy : y.cls ≠ "java/lang/invoke/MethodHandle" ∧ y.cls ≠ "java/lang/invoke/VarHandle")
    (hM : Met l Z y yb yl none [] rm (Value.ref a :: argsL).toArray wsc h Qc) (hsz : Ls.size = maxL) (hpd : parseMethodDescriptor y.desc = some ⟨ps, rr⟩) (hlen : argsL.length = ps.length) (hst : st = argsL.reverse ++ .ref a :: rest) (hW : (rest.map fun v => v.category).sum ≤ W)
    (hf : rm.frames + 1 ≤ R.frames) (hl : W + (yl + 11) + rm.locals ≤ R.locals) (hc2 : cells + rm.cells = c2) (hs2 : slots + rm.slots = s2) (hcl : c2 ≤ R.cells) (hsl : s2 ≤ R.slots) (hws : ∀ x ∈ wsc, x ∈ ws ∨ C.s.heap.size ≤ x) (hq : pc + 3 = q)
    (K : ∀ v T' h', On l Z ws R own nm bytes maxL ret C T' h' c2 s2 → Keep h h' wsc → Qc v h' → Go C ws Q k n (T'.setTop (mkF C.m q Ls (v.toList ++ rest)))) : Go C ws Q k n (T.setTop (mkF C.m pc Ls st)) := by
  obtain ⟨⟨hx, hZ, rfl, r1, hown, r2⟩, ⟨locs, X, N⟩, eT⟩ := O; subst hq hc2 hs2
  obtain ⟨v, _, ⟨T', L', k', n'⟩, -, X', ⟨Lc, hQ, l', y', z'⟩, stp⟩ := X.specialBack hx (y := y) hy1 hown (mvT hZ w1) (mvT hZ w2) (mvT hZ w4) hy (backOf (W := W) (Q := Post wsc rm.cells h Qc) hM hZ w4 w3 hf hl) (g := mkF C.m pc Ls st) rfl (hsz.trans r1.symm) (Steps.refl _) (a := a) (argsL := argsL) (rest := rest) (lenOf hpd hlen) hst (by show 2 * 0 + _ ≤ _; rw [Nat.mul_zero, Nat.zero_add]; exact hW) hd (fun _ _ => ⟨rfl, eT, hcl, hsl⟩)
  dsimp only [Pt.U, Pt.locs, Pt.cells, Pt.slots] at X' l' y' z' stp hQ
  subst l' y' z'
  obtain ⟨hF, hK, hE, hQ⟩ := hQ
  have hb : C.s.heap.size ≤ h.size := eT ▸ X.same.2.1
  exact (K v T' T'.heap ⟨⟨hx, hZ, rfl, r1, hown, r2⟩, ⟨_, X', N.app fun y hy => (hF y hy).elim (hws _) fun z => Or.inr (Nat.le_trans hb z)⟩, rfl⟩ hK hQ).via (stp)
theorem callI0 (O : On l Z ws R own nm bytes maxL ret C T h cells slots) {i : Nat} {y : MethodName} {yb : ByteArray} {yl : Nat} {rm : Room} {argsL rest : List Value} {wsc : List Addr} {Qc : Option Value → Heap → Prop} {ps : List FieldType} {rr : Option FieldType} {W c2 s2 : Nat} {a : Addr}
    (hd : decode bytes pc = .ok (.invokespecial i, 3)) (hy1 : y.name = "<init>") (w1 : (Cond.methodLink own i y).before a0 Z = true) (w2 : (Cond.instanceMethod y).before a0 Z = true) (w3 : (Cond.initialized y.cls).before a0 Z = true) (w4 : (Cond.code y yb yl none).before a0 Z = true) (hy : y.cls ≠ "java/lang/invoke/MethodHandle" ∧ y.cls ≠ "java/lang/invoke/VarHandle")
    (hM : Met l Z y yb yl none [] rm (Value.ref a :: argsL).toArray wsc h Qc) (hsz : Ls.size = maxL) (hpd : parseMethodDescriptor y.desc = some ⟨ps, rr⟩) (hlen : argsL.length = ps.length) (hst : st = argsL.reverse ++ .ref a :: rest) (hW : (rest.map fun v => v.category).sum ≤ W)
    (hf : rm.frames + 1 ≤ R.frames) (hl : W + (yl + 11) + rm.locals ≤ R.locals) (hc2 : cells + rm.cells = c2) (hs2 : slots + rm.slots = s2) (hcl : c2 ≤ R.cells) (hsl : s2 ≤ R.slots) (hrc : rm.cells = 0) (hwc : wsc = []) (hq : pc + 3 = q)
    (K : ∀ v T', On l Z ws R own nm bytes maxL ret C T' h c2 s2 → Qc v h → Go C ws Q k n (T'.setTop (mkF C.m q Ls (v.toList ++ rest)))) : Go C ws Q k n (T.setTop (mkF C.m pc Ls st)) := by
  obtain ⟨⟨hx, hZ, rfl, r1, hown, r2⟩, ⟨locs, X, N⟩, eT⟩ := O; subst hq hc2 hs2
  obtain ⟨v, _, ⟨T', L', k', n'⟩, -, X', ⟨Lc, hQ, l', y', z'⟩, stp⟩ := X.specialBack hx (y := y) hy1 hown (mvT hZ w1) (mvT hZ w2) (mvT hZ w4) hy (backOf (W := W) (Q := Post wsc rm.cells h Qc) hM hZ w4 w3 hf hl) (g := mkF C.m pc Ls st) rfl (hsz.trans r1.symm) (Steps.refl _) (a := a) (argsL := argsL) (rest := rest) (lenOf hpd hlen) hst (by show 2 * 0 + _ ≤ _; rw [Nat.mul_zero, Nat.zero_add]; exact hW) hd (fun _ _ => ⟨rfl, eT, hcl, hsl⟩)
  dsimp only [Pt.U, Pt.locs, Pt.cells, Pt.slots] at X' l' y' z' stp hQ
  subst l' y' z'
  obtain ⟨hF, hK, hE, hQ⟩ := hQ
  have hb : C.s.heap.size ≤ h.size := eT ▸ X.same.2.1
  have he : T'.heap = h := hE hrc hwc
  refine (K v T' ⟨⟨hx, hZ, rfl, r1, hown, r2⟩, ⟨_, X', N.app fun y hy => (hF y hy).elim (fun z => by rw [hwc] at z; cases z) fun z => Or.inr (Nat.le_trans hb z)⟩, he⟩ (he ▸ hQ)).via (stp)
theorem callV (O : On l Z ws R own nm bytes maxL ret C T h cells slots) {i : Nat} {y z : MethodName} {yb : ByteArray} {yl : Nat} {yr : Option FieldType} {rm : Room} {argsL rest : List Value} {wsc : List Addr} {Qc : Option Value → Heap → Prop} {ps : List FieldType} {rr : Option FieldType} {W c2 s2 : Nat} {a : Addr} {K0 : String}
    (hd : decode bytes pc = .ok (.invokevirtual i, 3)) (w1 : (Cond.methodLink own i y).before a0 Z = true) (wd : (Cond.declares y).before a0 Z = true) (ws1 : (Cond.selects K0 y z).before a0 Z = true) (hyz : y = z) (w2 : (Cond.instanceMethod z).before a0 Z = true) (w3 : (Cond.initialized z.cls).before a0 Z = true) (w4 : (Cond.code z yb yl yr).before a0 Z = true) (hy : y.cls ≠ "java/lang/invoke/MethodHandle" ∧ y.cls ≠ "java/lang/invoke/VarHandle")
    (hM : Met l Z z yb yl yr [] rm (Value.ref a :: argsL).toArray wsc h Qc) (E : Exa Z h a K0) (hsz : Ls.size = maxL) (hpd : parseMethodDescriptor y.desc = some ⟨ps, rr⟩) (hlen : argsL.length = ps.length) (hst : st = argsL.reverse ++ .ref a :: rest) (hW : (rest.map fun v => v.category).sum ≤ W)
    (hf : rm.frames + 1 ≤ R.frames) (hl : W + (yl + 11) + rm.locals ≤ R.locals) (hc2 : cells + rm.cells = c2) (hs2 : slots + rm.slots = s2) (hcl : c2 ≤ R.cells) (hsl : s2 ≤ R.slots) (hws : ∀ x ∈ wsc, x ∈ ws ∨ C.s.heap.size ≤ x) (hq : pc + 3 = q)
    (K : ∀ v T' h', On l Z ws R own nm bytes maxL ret C T' h' c2 s2 → Keep h h' wsc → Qc v h' → Go C ws Q k n (T'.setTop (mkF C.m q Ls (v.toList ++ rest)))) : Go C ws Q k n (T.setTop (mkF C.m pc Ls st)) := by
  obtain ⟨⟨hx, hZ, rfl, r1, hown, r2⟩, ⟨locs, X, N⟩, eT⟩ := O; subst hq hc2 hs2
  subst hyz
  obtain ⟨_, _, q1, -, q3⟩ := isOf hZ eT E
  obtain ⟨v, _, ⟨T', L', k', n'⟩, -, X', ⟨Lc, hQ, l', y', z'⟩, stp⟩ := X.virtualBack hx (y := y) (z := y) hown (mvT hZ w1) (mvT hZ wd) (notFace_of_selects (args := #[]) (mvT hZ ws1)) (mvT hZ ws1) (mvT hZ w2) hy (backOf (W := W) (Q := Post wsc rm.cells h Qc) hM hZ w4 w3 hf hl) q1 q3 (g := mkF C.m pc Ls st) rfl (hsz.trans r1.symm) (Steps.refl _) (argsL := argsL) (rest := rest) (lenOf hpd hlen) hst (by show 2 * 0 + _ ≤ _; rw [Nat.mul_zero, Nat.zero_add]; exact hW) hd (fun _ _ => ⟨rfl, eT, hcl, hsl⟩)
  dsimp only [Pt.U, Pt.locs, Pt.cells, Pt.slots] at X' l' y' z' stp hQ
  subst l' y' z'
  obtain ⟨hF, hK, hE, hQ⟩ := hQ
  have hb : C.s.heap.size ≤ h.size := eT ▸ X.same.2.1
  exact (K v T' T'.heap ⟨⟨hx, hZ, rfl, r1, hown, r2⟩, ⟨_, X', N.app fun y hy => (hF y hy).elim (hws _) fun z => Or.inr (Nat.le_trans hb z)⟩, rfl⟩ hK hQ).via (stp)
theorem callV0 (O : On l Z ws R own nm bytes maxL ret C T h cells slots) {i : Nat} {y z : MethodName} {yb : ByteArray} {yl : Nat} {yr : Option FieldType} {rm : Room} {argsL rest : List Value} {wsc : List Addr} {Qc : Option Value → Heap → Prop} {ps : List FieldType} {rr : Option FieldType} {W c2 s2 : Nat} {a : Addr} {K0 : String}
    (hd : decode bytes pc = .ok (.invokevirtual i, 3)) (w1 : (Cond.methodLink own i y).before a0 Z = true) (wd : (Cond.declares y).before a0 Z = true) (ws1 : (Cond.selects K0 y z).before a0 Z = true) (hyz : y = z) (w2 : (Cond.instanceMethod z).before a0 Z = true) (w3 : (Cond.initialized z.cls).before a0 Z = true) (w4 : (Cond.code z yb yl yr).before a0 Z = true) (hy : y.cls ≠ "java/lang/invoke/MethodHandle" ∧ y.cls ≠ "java/lang/invoke/VarHandle")
    (hM : Met l Z z yb yl yr [] rm (Value.ref a :: argsL).toArray wsc h Qc) (E : Exa Z h a K0) (hsz : Ls.size = maxL) (hpd : parseMethodDescriptor y.desc = some ⟨ps, rr⟩) (hlen : argsL.length = ps.length) (hst : st = argsL.reverse ++ .ref a :: rest) (hW : (rest.map fun v => v.category).sum ≤ W)
    (hf : rm.frames + 1 ≤ R.frames) (hl : W + (yl + 11) + rm.locals ≤ R.locals) (hc2 : cells + rm.cells = c2) (hs2 : slots + rm.slots = s2) (hcl : c2 ≤ R.cells) (hsl : s2 ≤ R.slots) (hrc : rm.cells = 0) (hwc : wsc = []) (hq : pc + 3 = q)
    (K : ∀ v T', On l Z ws R own nm bytes maxL ret C T' h c2 s2 → Qc v h → Go C ws Q k n (T'.setTop (mkF C.m q Ls (v.toList ++ rest)))) : Go C ws Q k n (T.setTop (mkF C.m pc Ls st)) := by
  obtain ⟨⟨hx, hZ, rfl, r1, hown, r2⟩, ⟨locs, X, N⟩, eT⟩ := O; subst hq hc2 hs2
  subst hyz
  obtain ⟨_, _, q1, -, q3⟩ := isOf hZ eT E
  obtain ⟨v, _, ⟨T', L', k', n'⟩, -, X', ⟨Lc, hQ, l', y', z'⟩, stp⟩ := X.virtualBack hx (y := y) (z := y) hown (mvT hZ w1) (mvT hZ wd) (notFace_of_selects (args := #[]) (mvT hZ ws1)) (mvT hZ ws1) (mvT hZ w2) hy (backOf (W := W) (Q := Post wsc rm.cells h Qc) hM hZ w4 w3 hf hl) q1 q3 (g := mkF C.m pc Ls st) rfl (hsz.trans r1.symm) (Steps.refl _) (argsL := argsL) (rest := rest) (lenOf hpd hlen) hst (by show 2 * 0 + _ ≤ _; rw [Nat.mul_zero, Nat.zero_add]; exact hW) hd (fun _ _ => ⟨rfl, eT, hcl, hsl⟩)
  dsimp only [Pt.U, Pt.locs, Pt.cells, Pt.slots] at X' l' y' z' stp hQ
  subst l' y' z'
  obtain ⟨hF, hK, hE, hQ⟩ := hQ
  have hb : C.s.heap.size ≤ h.size := eT ▸ X.same.2.1
  have he : T'.heap = h := hE hrc hwc
  refine (K v T' ⟨⟨hx, hZ, rfl, r1, hown, r2⟩, ⟨_, X', N.app fun y hy => (hF y hy).elim (fun z => by rw [hwc] at z; cases z) fun z => Or.inr (Nat.le_trans hb z)⟩, he⟩ (he ▸ hQ)).via (stp)
theorem tltL {x y : Int64} (h : x < y) : ifCond.holds .lt (lcmpW x y) = true ∧ ifCond.holds .ge (lcmpW x y) = false ∧ ifCond.holds .gt (lcmpW y x) = true ∧ ifCond.holds .le (lcmpW y x) = false := by
  rw [if0, if0, if0, if0]
  exact ⟨(tlt ((lw_lt x y).mpr h)).1, (tlt ((lw_lt x y).mpr h)).2.1, (tlt ((lw_gt y x).mpr h)).2.2.1, (tlt ((lw_gt y x).mpr h)).2.2.2⟩
theorem fltL {x y : Int64} (h : ¬ x < y) : ifCond.holds .lt (lcmpW x y) = false ∧ ifCond.holds .ge (lcmpW x y) = true ∧ ifCond.holds .gt (lcmpW y x) = false ∧ ifCond.holds .le (lcmpW y x) = true := by
  rw [if0, if0, if0, if0]
  have h1 : ¬ lcmpW x y < 0 := fun q => h ((lw_lt x y).mp q)
  have h2 : ¬ 0 < lcmpW y x := fun q => h ((lw_gt y x).mp q)
  exact ⟨(flt h1).1, (flt h1).2.1, (flt h2).2.2.1, (flt h2).2.2.2⟩
theorem teqL {x y : Int64} (h : x = y) : ifCond.holds .eq (lcmpW x y) = true ∧ ifCond.holds .ne (lcmpW x y) = false := by
  rw [if0, if0]; exact teq ((lw_eq x y).mpr h)
theorem feqL {x y : Int64} (h : ¬ x = y) : ifCond.holds .eq (lcmpW x y) = false ∧ ifCond.holds .ne (lcmpW x y) = true := by
  rw [if0, if0]; exact feq fun q => h ((lw_eq x y).mp q)
theorem tlt0 {x : Int32} (h : x < 0) : ifCond.holds .lt x = true ∧ ifCond.holds .ge x = false := by rw [if0, if0]; exact ⟨(tlt h).1, (tlt h).2.1⟩
theorem flt0 {x : Int32} (h : ¬ x < 0) : ifCond.holds .lt x = false ∧ ifCond.holds .ge x = true := by rw [if0, if0]; exact ⟨(flt h).1, (flt h).2.1⟩
theorem tgt0 {x : Int32} (h : 0 < x) : ifCond.holds .gt x = true ∧ ifCond.holds .le x = false := by rw [if0, if0]; exact ⟨(tlt h).2.2.1, (tlt h).2.2.2⟩
theorem fgt0 {x : Int32} (h : ¬ 0 < x) : ifCond.holds .gt x = false ∧ ifCond.holds .le x = true := by rw [if0, if0]; exact ⟨(flt h).2.2.1, (flt h).2.2.2⟩
theorem teq0 {x : Int32} (h : x = 0) : ifCond.holds .eq x = true ∧ ifCond.holds .ne x = false := by rw [if0, if0]; exact teq h
theorem feq0 {x : Int32} (h : ¬ x = 0) : ifCond.holds .eq x = false ∧ ifCond.holds .ne x = true := by rw [if0, if0]; exact feq h
end Steps
end Jvm.OwnW

namespace Jvm.OwnW
open Sem ClassFile Op Lib Jvm.Free Jvm.Stand Jvm.LawKit Jvm.RoadKit
/-- an array of n places of the kind ty; place j holds f j -/
def Ar (Z : State) (h : Heap) (a : Addr) (ty : FieldType) (n : Nat) (f : Nat → Value) : Prop := ∃ cl : Cell, Arr Z h a cl ty ∧ cl.slots.size = n ∧ n < 2147483648 ∧ ∀ j, j < n → cl.slots[j]? = some (f j)
/-- the values of a list by their places -/
def lf (vs : List Value) : Nat → Value := fun j => vs.getD j .null
def updV (f : Nat → Value) (i : Nat) (v : Value) : Nat → Value := fun j => if j = i then v else f j
section Arrs
variable {Z : State} {h h' : Heap} {a b : Addr} {ty : FieldType} {n i sl : Nat} {f g : Nat → Value} {v : Value} {ws : List Addr} {vs : List Value}
theorem Ar.lt (F : Ar Z h a ty n f) : a < h.size := by obtain ⟨_, A, -⟩ := F; exact A.lt
theorem Ar.ext (F : Ar Z h a ty n f) (E : Ext h h') : Ar Z h' a ty n f := by obtain ⟨c, A, r⟩ := F; exact ⟨c, A.ext E, r⟩
theorem Ar.keep (F : Ar Z h a ty n f) (K : Keep h h' ws) (q : a ∉ ws) : Ar Z h' a ty n f := by obtain ⟨c, A, r⟩ := F; exact ⟨c, ⟨K.2.1 a c A.1 q, A.2⟩, r⟩
theorem Ar.other (F : Ar Z h b ty n f) (W : Wr h h' a sl v) (q : b ≠ a) : Ar Z h' b ty n f := by obtain ⟨c, A, r⟩ := F; exact ⟨c, A.other W q, r⟩
theorem Ar.congr (F : Ar Z h a ty n f) (q : ∀ j, j < n → f j = g j) : Ar Z h a ty n g := by obtain ⟨c, A, r1, r2, r3⟩ := F; exact ⟨c, A, r1, r2, fun j hj => by rw [r3 j hj, q j hj]⟩
theorem Ar.small (F : Ar Z h a ty n f) : n < 2147483648 := by obtain ⟨c, A, r1, r2, r3⟩ := F; exact r2
theorem toNat_of {z : Int32} {n : Nat} (hz : z.toInt = n) : z.toNatClampNeg = n := by simp only [Int32.toNatClampNeg, hz, Int.toNat_natCast]
theorem Ar.new {k : ClassId} {z : Int32} (A : Arr Z h a (newA k ty z) ty) (hz : z.toInt = n) : Ar Z h a ty n (fun _ => defaultValue ty) := by
  have q := toNat_of hz
  refine ⟨_, A, by rw [sz_new, q], ?_, fun j hj => ?_⟩
  · have := z.toInt_lt; omega
  · simp [newA, q, hj]
theorem Ar.set (F : Ar Z h a ty n f) (W : Wr h h' a i v) (hi : i < n) : Ar Z h' a ty n (updV f i v) := by
  obtain ⟨c, A, r1, r2, r3⟩ := F
  refine ⟨_, A.same W, by rw [sz_set]; exact r1, r2, fun j hj => ?_⟩
  by_cases e : j = i
  · subst e; simp [Cell.setSlot, updV, r1, hi]
  · simp only [Cell.setSlot, updV, if_neg e]; rw [Array.getElem?_setIfInBounds_ne (Ne.symm e)]; exact r3 j hj
theorem Ar.setL (F : Ar Z h a ty n (lf vs)) (W : Wr h h' a i v) (hi : i < n) (hl : i < vs.length) : Ar Z h' a ty n (lf (vs.set i v)) := (F.set W hi).congr fun j _ => by
  simp only [updV, lf, List.getD_eq_getElem?_getD]
  by_cases e : j = i
  · subst e; simp [hl]
  · rw [if_neg e, List.getElem?_set_ne (Ne.symm e)]
theorem lf_rep (n : Nat) (d : Value) (j : Nat) (hj : j < n) : d = lf (List.replicate n d) j := by simp [lf, hj]
theorem updV_lf (L : List Value) (hi : i < L.length) : updV (lf L) i v = lf (L.set i v) := by
  funext j
  simp only [updV, lf, List.getD_eq_getElem?_getD]
  by_cases e : j = i
  · subst e; simp [hi]
  · rw [if_neg e, List.getElem?_set_ne (Ne.symm e)]
theorem fill_step (N : Nat → Value) (d : Value) (i j : Nat) : updV (fun j => if j < i then N j else d) i (N i) j = if j < i + 1 then N j else d := by
  simp only [updV]
  by_cases e : j = i
  · subst e; rw [if_pos rfl, if_pos (Nat.lt_succ_self j)]
  · rw [if_neg e]
    by_cases q : j < i
    · rw [if_pos q, if_pos (by omega)]
    · rw [if_neg q, if_neg (by omega)]
theorem Ar.of_arr {cl : Cell} (A : Arr Z h a cl ty) (hn : cl.slots.size = n) (h31 : n < 2147483648) : ∃ f, Ar Z h a ty n f :=
  ⟨fun j => cl.slots.getD j .null, cl, A, hn, h31, fun j hj => by simp [Array.getD, hn, hj]⟩
theorem staKeep {D n d : String} (F : Sta Z h D n d v) (K : Keep h h' []) : Sta Z h' D n d v := by
  obtain ⟨cf, i, k, f, st, cell, h1, h2, h3, h4, h5, r⟩ := F
  exact ⟨cf, i, k, f, st, cell, h1, h2, h3, h4, K.2.1 _ _ h5 (fun q => nomatch q), r⟩
theorem lenEq {t : Term} {args : Array Value} {s : State} {cl : Cell} {z : Int32} (et : t.eval args s none [] s = some (.ref a)) (ha : s.arrayAt? a = some cl) (hc : (Cond.eq (.length t) (.int z)).value args s none s [] = some true) : cl.slots.size.toInt32 = z ∧ cl.slots.size < 2147483648 := by
  by_cases hb : cl.slots.size < 2 ^ 31
  · exact ⟨gotT (Cond.eq_ints (len_f et ha hb) (Term.int_eval z)) hc, hb⟩
  · obtain ⟨x, y, q1, -⟩ := cmp_v (Or.inl hc)
    simp [Term.eval, et, ha, hb] at q1
theorem inb {z : Int32} {m : Nat} (hz : z.toInt = (i : Int)) (hm : m = n) (hi : i < n) : ¬ (z < 0 ∨ m ≤ z.toNatClampNeg) := by
  rw [toNat_of hz, Int32.lt_iff_toInt_lt, hz, hm]
  have : (0 : Int32).toInt = 0 := rfl
  rw [this]; omega
theorem len32 {m : Nat} {z : Int32} (hm : m = n) (hn : n < 2147483648) (hz : z.toInt = n) : m.toInt32 = z := by
  apply Int32.toInt_inj.mp; rw [hz, hm]; exact len_toInt hn
end Arrs
section ArrSteps
variable {l : Launch} {Z : State} {a0 : Array Value} {ws : List Addr} {R : Room} {own nm : String} {bytes : ByteArray} {maxL : Nat} {ret : Option FieldType} {C : Ctx} {T : State} {h : Heap} {cells slots k n : Nat} {Q : Option Value → Heap → Prop} {pc q : Nat} {Ls L' : Array Slot} {st : List Value}
  {a : Addr} {j : Int32} {i N : Nat} {f : Nat → Value} {v : Value} {ty : FieldType}
theorem ialA (O : On l Z ws R own nm bytes maxL ret C T h cells slots) (hd : decode bytes pc = .ok (.iaload, 1)) (V : Ar Z h a .int N f) (hj : j.toInt = (i : Int)) (hi : i < N) (hv : f i = v) (hq : pc + 1 = q)
    (K : Go C ws Q k n (T.setTop (mkF C.m q Ls (v :: st)))) : Go C ws Q k n (T.setTop (mkF C.m pc Ls (.int j :: .ref a :: st))) := by
  obtain ⟨c, A, r1, r2, r3⟩ := V
  exact iaload O hd A (inb hj r1 hi) (by rw [toNat_of hj, ← hv]; exact r3 i hi) hq K
theorem lalA (O : On l Z ws R own nm bytes maxL ret C T h cells slots) (hd : decode bytes pc = .ok (.laload, 1)) (V : Ar Z h a .long N f) (hj : j.toInt = (i : Int)) (hi : i < N) (hv : f i = v) (hq : pc + 1 = q)
    (K : Go C ws Q k n (T.setTop (mkF C.m q Ls (v :: st)))) : Go C ws Q k n (T.setTop (mkF C.m pc Ls (.int j :: .ref a :: st))) := by
  obtain ⟨c, A, r1, r2, r3⟩ := V
  exact laload O hd A (inb hj r1 hi) (by rw [toNat_of hj, ← hv]; exact r3 i hi) hq K
theorem balA (O : On l Z ws R own nm bytes maxL ret C T h cells slots) (hd : decode bytes pc = .ok (.baload, 1)) (V : Ar Z h a .byte N f) (hj : j.toInt = (i : Int)) (hi : i < N) (hv : f i = v) (hq : pc + 1 = q)
    (K : Go C ws Q k n (T.setTop (mkF C.m q Ls (v :: st)))) : Go C ws Q k n (T.setTop (mkF C.m pc Ls (.int j :: .ref a :: st))) := by
  obtain ⟨c, A, r1, r2, r3⟩ := V
  exact baload O hd A (inb hj r1 hi) (by rw [toNat_of hj, ← hv]; exact r3 i hi) hq K
theorem aalA (O : On l Z ws R own nm bytes maxL ret C T h cells slots) (hd : decode bytes pc = .ok (.aaload, 1)) (V : Ar Z h a ty N f) (hty : ty.isReference = true) (hj : j.toInt = (i : Int)) (hi : i < N) (hv : f i = v) (hq : pc + 1 = q)
    (K : Go C ws Q k n (T.setTop (mkF C.m q Ls (v :: st)))) : Go C ws Q k n (T.setTop (mkF C.m pc Ls (.int j :: .ref a :: st))) := by
  obtain ⟨c, A, r1, r2, r3⟩ := V
  exact aaload O hd A hty (inb hj r1 hi) (by rw [toNat_of hj, ← hv]; exact r3 i hi) hq K
theorem lenA (O : On l Z ws R own nm bytes maxL ret C T h cells slots) (hd : decode bytes pc = .ok (.arraylength, 1)) (V : Ar Z h a ty N f) {z : Int32} (hz : z.toInt = N) (hq : pc + 1 = q)
    (K : Go C ws Q k n (T.setTop (mkF C.m q Ls (.int z :: st)))) : Go C ws Q k n (T.setTop (mkF C.m pc Ls (.ref a :: st))) := by
  obtain ⟨c, A, r1, r2, r3⟩ := V
  exact arraylength O hd A (len32 r1 r2 hz) hq K
theorem iasA (O : On l Z ws R own nm bytes maxL ret C T h cells slots) {x : Int32} (hd : decode bytes pc = .ok (.iastore, 1)) (V : Ar Z h a .int N f) (hj : j.toInt = (i : Int)) (hi : i < N) (ha : a ∈ ws ∨ C.s.heap.size ≤ a) (hq : pc + 1 = q)
    (K : ∀ T' h', On l Z ws R own nm bytes maxL ret C T' h' cells slots → Wr h h' a i (.int x) → Go C ws Q k n (T'.setTop (mkF C.m q Ls st))) : Go C ws Q k n (T.setTop (mkF C.m pc Ls (.int x :: .int j :: .ref a :: st))) := by
  obtain ⟨c, A, r1, r2, r3⟩ := V
  exact iastore O hd A (inb hj r1 hi) ha hq fun T' h' O' W => K T' h' O' (toNat_of hj ▸ W)
theorem lasA (O : On l Z ws R own nm bytes maxL ret C T h cells slots) {x : Int64} (hd : decode bytes pc = .ok (.lastore, 1)) (V : Ar Z h a .long N f) (hj : j.toInt = (i : Int)) (hi : i < N) (ha : a ∈ ws ∨ C.s.heap.size ≤ a) (hq : pc + 1 = q)
    (K : ∀ T' h', On l Z ws R own nm bytes maxL ret C T' h' cells slots → Wr h h' a i (.long x) → Go C ws Q k n (T'.setTop (mkF C.m q Ls st))) : Go C ws Q k n (T.setTop (mkF C.m pc Ls (.long x :: .int j :: .ref a :: st))) := by
  obtain ⟨c, A, r1, r2, r3⟩ := V
  exact lastore O hd A (inb hj r1 hi) ha hq fun T' h' O' W => K T' h' O' (toNat_of hj ▸ W)
theorem basA (O : On l Z ws R own nm bytes maxL ret C T h cells slots) {x y : Int32} (hd : decode bytes pc = .ok (.bastore, 1)) (V : Ar Z h a .byte N f) (hj : j.toInt = (i : Int)) (hi : i < N) (ha : a ∈ ws ∨ C.s.heap.size ≤ a) (hy : x.toInt8.toInt32 = y) (hq : pc + 1 = q)
    (K : ∀ T' h', On l Z ws R own nm bytes maxL ret C T' h' cells slots → Wr h h' a i (.int y) → Go C ws Q k n (T'.setTop (mkF C.m q Ls st))) : Go C ws Q k n (T.setTop (mkF C.m pc Ls (.int x :: .int j :: .ref a :: st))) := by
  obtain ⟨c, A, r1, r2, r3⟩ := V
  subst hy
  exact bastore O hd A (inb hj r1 hi) ha hq fun T' h' O' W => K T' h' O' (toNat_of hj ▸ W)
theorem newA' (O : On l Z ws R own nm bytes maxL ret C T h cells slots) {aty : ArrayType} {c2 s2 : Nat} (hd : decode bytes pc = .ok (.newarray aty, 2)) (ht : newarray.typeOf aty = ty) (w : (Cond.arrayClass ty).before a0 Z = true) {z : Int32} (hz : z.toInt = N) {cap : Nat} (hcap : N ≤ cap) (hb : cap * 8 ≤ 536870912) (hc2 : cells + 1 = c2) (hs2 : slots + cap = s2) (hc : c2 ≤ R.cells) (hl : s2 ≤ R.slots) (hq : pc + 2 = q)
    (K : ∀ a T' h', a = h.size → C.s.heap.size ≤ a → On l Z ws R own nm bytes maxL ret C T' h' c2 s2 → Ext h h' → Ar Z h' a ty N (fun _ => defaultValue ty) → Go C ws Q k n (T'.setTop (mkF C.m q Ls (.ref a :: st)))) : Go C ws Q k n (T.setTop (mkF C.m pc Ls (.int z :: st))) := by
  subst ht
  refine newP O hd w ?_ (by rw [toNat_of hz]; exact hcap) hb hc2 hs2 hc hl hq fun a T' h' cA e1 e2 O' E A => K a T' h' e1 e2 O' E (Ar.new A hz)
  rw [Int32.lt_iff_toInt_lt, hz]
  have : (0 : Int32).toInt = 0 := rfl
  rw [this]; omega
end ArrSteps
end Jvm.OwnW

namespace Jvm.OwnW
open Jvm.RoadKit
theorem add32 {x y : Int32} (h1 : -2147483648 ≤ x.toInt + y.toInt) (h2 : x.toInt + y.toInt < 2147483648) : (x + y).toInt = x.toInt + y.toInt := by
  have := c_iadd x y; have := rng32 (x + y); omega
theorem sub32 {x y : Int32} (h1 : -2147483648 ≤ x.toInt - y.toInt) (h2 : x.toInt - y.toInt < 2147483648) : (x - y).toInt = x.toInt - y.toInt := by
  have := c_isub x y; have := rng32 (x - y); omega
theorem mul32 {x y : Int32} (h1 : -2147483648 ≤ x.toInt * y.toInt) (h2 : x.toInt * y.toInt < 2147483648) : (x * y).toInt = x.toInt * y.toInt := by
  have := c_imul x y; have := rng32 (x * y); omega
theorem add64 {x y : Int64} (h1 : -9223372036854775808 ≤ x.toInt + y.toInt) (h2 : x.toInt + y.toInt < 9223372036854775808) : (x + y).toInt = x.toInt + y.toInt := by
  have := c_ladd x y; have := rng64 (x + y); omega
theorem sub64 {x y : Int64} (h1 : -9223372036854775808 ≤ x.toInt - y.toInt) (h2 : x.toInt - y.toInt < 9223372036854775808) : (x - y).toInt = x.toInt - y.toInt := by
  have := c_lsub x y; have := rng64 (x - y); omega
theorem mul64 {x y : Int64} (h1 : -9223372036854775808 ≤ x.toInt * y.toInt) (h2 : x.toInt * y.toInt < 9223372036854775808) : (x * y).toInt = x.toInt * y.toInt := by
  have := c_lmul x y; have := rng64 (x * y); omega
theorem ne0_32 {z : Int32} (h : 0 < z.toInt) : z ≠ 0 := fun e => by subst e; exact absurd h (by decide)
theorem ne0_64 {z : Int64} (h : 0 < z.toInt) : z ≠ 0 := fun e => by subst e; exact absurd h (by decide)
theorem lt32 {x y : Int32} (h : x.toInt < y.toInt) : x < y := Int32.lt_iff_toInt_lt.mpr h
theorem nlt32 {x y : Int32} (h : y.toInt ≤ x.toInt) : ¬ x < y := fun q => by rw [Int32.lt_iff_toInt_lt] at q; omega
theorem lt64 {x y : Int64} (h : x.toInt < y.toInt) : x < y := Int64.lt_iff_toInt_lt.mpr h
theorem nlt64 {x y : Int64} (h : y.toInt ≤ x.toInt) : ¬ x < y := fun q => by rw [Int64.lt_iff_toInt_lt] at q; omega
theorem eq32 {x y : Int32} (h : x.toInt = y.toInt) : x = y := Int32.toInt_inj.mp h
theorem ne32 {x y : Int32} (h : x.toInt ≠ y.toInt) : ¬ x = y := fun e => h (congrArg _ e)
theorem ne64 {x y : Int64} (h : x.toInt ≠ y.toInt) : ¬ x = y := fun e => h (congrArg _ e)
theorem inc32 {z : Int32} {i : Nat} (hi : z.toInt = (i : Int)) (hb : i < 2147483647) : (z + 1).toInt = ((i + 1 : Nat) : Int) := by
  have h1 : (1 : Int32).toInt = 1 := rfl
  rw [add32 (by omega) (by omega)]; omega
theorem dec32 {z : Int32} {i : Nat} (hi : z.toInt = (i : Int)) (hb : 1 ≤ i) : (z - 1).toInt = ((i - 1 : Nat) : Int) := by
  have h1 : (1 : Int32).toInt = 1 := rfl
  have := rng32 z
  rw [sub32 (by omega) (by omega)]; omega
/-- (s & 0x7fffffff) % z for a z above 0 -/
theorem rem_in (s z : Int32) (hz : 0 < z.toInt) : ∃ i : Nat, ((s &&& 2147483647) % z).toInt = (i : Int) ∧ (i : Int) < z.toInt := by
  have h1 := c_mask s 2147483647 31 (by decide) (by decide)
  have h2 := (c_iremV (s &&& 2147483647) z).1 (by omega) hz
  exact ⟨((s &&& 2147483647) % z).toInt.toNat, by omega, by omega⟩
theorem b8 (x : Int32) : x.toInt8.toInt32.toInt8.toInt32 = x.toInt8.toInt32 := by
  have h := c_i2b x; have h2 := c_i2b x.toInt8.toInt32
  apply Int32.toInt_inj.mp; omega
theorem lf_int (L : List Int32) (j : Nat) (hj : j < L.length) : lf (L.map Value.int) j = .int (L.getD j 0) := by
  simp [lf, List.getD_eq_getElem?_getD, hj]
theorem lf_long (L : List Int64) (j : Nat) (hj : j < L.length) : lf (L.map Value.long) j = .long (L.getD j 0) := by
  simp [lf, List.getD_eq_getElem?_getD, hj]
end Jvm.OwnW

namespace Jvm.Pilot.@@N@@
open Jvm Jvm.ClassFile Sem Op Lib Jvm.Free Jvm.Stand Jvm.LawKit Jvm.RoadKit Bundle Jvm.OwnW Jvm.Pilot.@@N@@.Jvm.D

theorem dm_0 : decode jdk_29_method_65_code 0 = .ok (.iload_n 0, 1) := by decide +kernel
theorem dm_1 : decode jdk_29_method_65_code 1 = .ok (.iload_n 1, 1) := by decide +kernel
theorem dm_2 : decode jdk_29_method_65_code 2 = .ok (.if_icmp .lt 7, 3) := by decide +kernel
theorem dm_5 : decode jdk_29_method_65_code 5 = .ok (.iload_n 0, 1) := by decide +kernel
theorem dm_6 : decode jdk_29_method_65_code 6 = .ok (.goto 4, 3) := by decide +kernel
theorem dm_9 : decode jdk_29_method_65_code 9 = .ok (.iload_n 1, 1) := by decide +kernel
theorem dm_10 : decode jdk_29_method_65_code 10 = .ok (.ireturn, 1) := by decide +kernel
def fn_m (p1 : Int32) (p2 : Int32) : Int32 := (if p1 < p2 then p2 else p1)
theorem ef_m (p1 : Int32) (p2 : Int32) (m : MethodId) : entryFrame m #[(.int p1), (.int p2)] 2 = mkF m 0 #[.val (.int p1), .val (.int p2)] [] := by first | (simp [entryFrame, mkF, argsToLocals, Value.category, maxLocals]; done) | rfl
theorem pn_m : plainFor (⟨"java/lang/Math", "max", "(II)I"⟩ : MethodName) = true := by first | exact plainFor_of_name (by first | (simp [plainName, overriddenIn]; done) | decide +kernel) | decide +kernel
set_option maxRecDepth 65536 in
set_option maxHeartbeats 40000000 in
theorem rm_m (l : Launch) (Z : State) (a0 : Array Value) (hw : ∀ d ∈ tables_1, d.before a0 Z = true) (p1 : Int32) (p2 : Int32) (h0 : Heap)  :
    Met l Z (⟨"java/lang/Math", "max", "(II)I"⟩ : MethodName) jdk_29_method_65_code 2 (some .int) [] ({ frames := 0, cells := 0, slots := 0, locals := 0 } : Room) #[(.int p1), (.int p2)] [] h0 (fun v h => v = some (Value.int (fn_m p1 p2))) := by
  refine Met.mk pn_m (ef_m p1 p2) ?_
  intro C T hs0 O
  show Go C [] (fun v h => v = some (Value.int (fn_m p1 p2))) 0 0 (T.setTop (mkF C.m 0 #[.val (.int p1), .val (.int p2)] []))
  refine Jvm.OwnW.iloadN O dm_0 rfl (q := 1) rfl ?_
  refine Jvm.OwnW.iloadN O dm_1 rfl (q := 2) rfl ?_
  by_cases hc2 : p1 < p2
  · refine Jvm.OwnW.icmpYes O dm_2 (tlt hc2).1 (by decide) (q := 9) rfl ?_
    refine Jvm.OwnW.iloadN O dm_9 rfl (q := 10) rfl ?_
    exact Jvm.OwnW.retI O dm_10 rfl (by decide) (by decide) (by show some (Value.int p2) = some (Value.int (fn_m p1 p2)); rw [fn_m, if_pos hc2])
  · refine Jvm.OwnW.icmpNo O dm_2 (flt hc2).1 (q := 5) rfl ?_
    refine Jvm.OwnW.iloadN O dm_5 rfl (q := 6) rfl ?_
    refine Jvm.OwnW.goto O dm_6 (by decide) (q := 10) rfl ?_
    exact Jvm.OwnW.retI O dm_10 rfl (by decide) (by decide) (by show some (Value.int p1) = some (Value.int (fn_m p1 p2)); rw [fn_m, if_neg hc2])
theorem drec_0 : decode jdk_30_method_1_code 0 = .ok (.aload_n 0, 1) := by decide +kernel
theorem drec_1 : decode jdk_30_method_1_code 1 = .ok (.invokespecial 1, 3) := by decide +kernel
theorem drec_4 : decode jdk_30_method_1_code 4 = .ok (.return_, 1) := by decide +kernel
theorem ef_rec (a1 : Addr) (m : MethodId) : entryFrame m #[(.ref a1)] 1 = mkF m 0 #[.val (.ref a1)] [] := by first | (simp [entryFrame, mkF, argsToLocals, Value.category, maxLocals]; done) | rfl
theorem pn_rec : plainFor (⟨"java/lang/Record", "<init>", "()V"⟩ : MethodName) = true := by first | exact plainFor_of_name (by first | (simp [plainName, overriddenIn]; done) | decide +kernel) | decide +kernel
set_option maxRecDepth 65536 in
set_option maxHeartbeats 40000000 in
theorem rm_rec (l : Launch) (Z : State) (a0 : Array Value) (hw : ∀ d ∈ tables_1, d.before a0 Z = true) (a1 : Addr) (h0 : Heap)  :
    Met l Z (⟨"java/lang/Record", "<init>", "()V"⟩ : MethodName) jdk_30_method_1_code 1 none [] ({ frames := 1, cells := 0, slots := 0, locals := 12 } : Room) #[(.ref a1)] [] h0 (fun v h => v = none) := by
  refine Met.mk pn_rec (ef_rec a1) ?_
  intro C T hs0 O
  show Go C [] (fun v h => v = none) 0 0 (T.setTop (mkF C.m 0 #[.val (.ref a1)] []))
  refine Jvm.OwnW.aloadN O drec_0 rfl rfl (q := 1) rfl ?_
  refine Jvm.OwnW.initO O drec_1 (hw _ (List.mem_of_getElem? (i := 13) rfl)) (hw _ (List.mem_of_getElem? (i := 14) rfl)) (hw _ (List.mem_of_getElem? (i := 15) rfl)) rfl (by decide) (W := 0) (Nat.le_of_eq rfl) (by decide) (q := 4) rfl ?_
  intro T1 O1
  exact Jvm.OwnW.ret0 O1 drec_4 (by decide) (by decide) rfl
theorem pd_0 : parseMethodDescriptor "()V" = some ⟨[], none⟩ := by decide +kernel
theorem di_0 : decode prog_40_method_1_code 0 = .ok (.aload_n 0, 1) := by decide +kernel
theorem di_1 : decode prog_40_method_1_code 1 = .ok (.invokespecial 1, 3) := by decide +kernel
theorem di_4 : decode prog_40_method_1_code 4 = .ok (.aload_n 0, 1) := by decide +kernel
theorem di_5 : decode prog_40_method_1_code 5 = .ok (.aload_n 1, 1) := by decide +kernel
theorem di_6 : decode prog_40_method_1_code 6 = .ok (.putfield 7, 3) := by decide +kernel
theorem di_9 : decode prog_40_method_1_code 9 = .ok (.aload_n 0, 1) := by decide +kernel
theorem di_10 : decode prog_40_method_1_code 10 = .ok (.aload_n 2, 1) := by decide +kernel
theorem di_11 : decode prog_40_method_1_code 11 = .ok (.putfield 13, 3) := by decide +kernel
theorem di_14 : decode prog_40_method_1_code 14 = .ok (.aload_n 0, 1) := by decide +kernel
theorem di_15 : decode prog_40_method_1_code 15 = .ok (.aload_n 3, 1) := by decide +kernel
theorem di_16 : decode prog_40_method_1_code 16 = .ok (.putfield 16, 3) := by decide +kernel
theorem di_19 : decode prog_40_method_1_code 19 = .ok (.aload_n 0, 1) := by decide +kernel
theorem di_20 : decode prog_40_method_1_code 20 = .ok (.aload 4, 2) := by decide +kernel
theorem di_22 : decode prog_40_method_1_code 22 = .ok (.putfield 19, 3) := by decide +kernel
theorem di_25 : decode prog_40_method_1_code 25 = .ok (.return_, 1) := by decide +kernel
theorem ef_i (a1 : Addr) (a2 : Addr) (a3 : Addr) (a4 : Addr) (a5 : Addr) (m : MethodId) : entryFrame m #[(.ref a1), (.ref a2), (.ref a3), (.ref a4), (.ref a5)] 5 = mkF m 0 #[.val (.ref a1), .val (.ref a2), .val (.ref a3), .val (.ref a4), .val (.ref a5)] [] := by first | (simp [entryFrame, mkF, argsToLocals, Value.category, maxLocals]; done) | rfl
theorem pn_i : plainFor (⟨"com/example/bidwright/bidwright/game/ClientOptions$RouteList", "<init>", "([I[I[I[I)V"⟩ : MethodName) = true := by first | exact plainFor_of_name (by first | (simp [plainName, overriddenIn]; done) | decide +kernel) | decide +kernel
set_option maxRecDepth 65536 in
set_option maxHeartbeats 40000000 in
theorem rm_i (l : Launch) (Z : State) (a0 : Array Value) (hw : ∀ d ∈ tables_1, d.before a0 Z = true) (a1 : Addr) (a2 : Addr) (a3 : Addr) (a4 : Addr) (a5 : Addr) (h0 : Heap) (E_a1 : Exa Z h0 a1 "com/example/bidwright/bidwright/game/ClientOptions$RouteList") (F_routes_a1 : Fld Z h0 a1 "com/example/bidwright/bidwright/game/ClientOptions$RouteList" "routes" "[I" .null) (F_stayStarts_a1 : Fld Z h0 a1 "com/example/bidwright/bidwright/game/ClientOptions$RouteList" "stayStarts" "[I" .null) (F_extended_a1 : Fld Z h0 a1 "com/example/bidwright/bidwright/game/ClientOptions$RouteList" "extended" "[I" .null) (F_added_a1 : Fld Z h0 a1 "com/example/bidwright/bidwright/game/ClientOptions$RouteList" "added" "[I" .null) :
    Met l Z (⟨"com/example/bidwright/bidwright/game/ClientOptions$RouteList", "<init>", "([I[I[I[I)V"⟩ : MethodName) prog_40_method_1_code 5 none [] ({ frames := 2, cells := 0, slots := 0, locals := 24 } : Room) #[(.ref a1), (.ref a2), (.ref a3), (.ref a4), (.ref a5)] [a1] h0 (fun v h => v = none ∧ Fld Z h a1 "com/example/bidwright/bidwright/game/ClientOptions$RouteList" "routes" "[I" (.ref a2) ∧ Fld Z h a1 "com/example/bidwright/bidwright/game/ClientOptions$RouteList" "stayStarts" "[I" (.ref a3) ∧ Fld Z h a1 "com/example/bidwright/bidwright/game/ClientOptions$RouteList" "extended" "[I" (.ref a4) ∧ Fld Z h a1 "com/example/bidwright/bidwright/game/ClientOptions$RouteList" "added" "[I" (.ref a5)) := by
  refine Met.mk pn_i (ef_i a1 a2 a3 a4 a5) ?_
  intro C T hs0 O
  show Go C [a1] (fun v h => v = none ∧ Fld Z h a1 "com/example/bidwright/bidwright/game/ClientOptions$RouteList" "routes" "[I" (.ref a2) ∧ Fld Z h a1 "com/example/bidwright/bidwright/game/ClientOptions$RouteList" "stayStarts" "[I" (.ref a3) ∧ Fld Z h a1 "com/example/bidwright/bidwright/game/ClientOptions$RouteList" "extended" "[I" (.ref a4) ∧ Fld Z h a1 "com/example/bidwright/bidwright/game/ClientOptions$RouteList" "added" "[I" (.ref a5)) 0 0 (T.setTop (mkF C.m 0 #[.val (.ref a1), .val (.ref a2), .val (.ref a3), .val (.ref a4), .val (.ref a5)] []))
  refine Jvm.OwnW.aloadN O di_0 rfl rfl (q := 1) rfl ?_
  refine Jvm.OwnW.callI0 O (y := (⟨"java/lang/Record", "<init>", "()V"⟩ : MethodName)) (a := a1) (argsL := []) (rest := []) di_1 rfl (hw _ (List.mem_of_getElem? (i := 8) rfl)) (hw _ (List.mem_of_getElem? (i := 9) rfl)) (hw _ (List.mem_of_getElem? (i := 11) rfl)) (hw _ (List.mem_of_getElem? (i := 12) rfl)) (by decide) (rm_rec l Z a0 hw a1 h0) rfl pd_0 rfl (hst := rfl) (W := 0) (Nat.le_of_eq rfl) (by decide) (by decide) (c2 := 0) (s2 := 0) rfl rfl (by decide) (by decide) rfl rfl (q := 4) rfl ?_
  intro v1 T1 O1 q1
  obtain rfl := q1
  show Go C _ _ _ _ (T1.setTop (mkF C.m 4 #[.val (.ref a1), .val (.ref a2), .val (.ref a3), .val (.ref a4), .val (.ref a5)] []))
  refine Jvm.OwnW.aloadN O1 di_4 rfl rfl (q := 5) rfl ?_
  refine Jvm.OwnW.aloadN O1 di_5 rfl rfl (q := 6) rfl ?_
  refine Jvm.OwnW.putF O1 di_6 (host := "") (Or.inl (hw _ (List.mem_of_getElem? (i := 16) rfl))) Via.refl F_routes_a1 E_a1 (Or.inr ⟨hw _ (List.mem_of_getElem? (i := 17) rfl), rfl, rfl⟩) (hw _ (List.mem_of_getElem? (i := 3) rfl)) (ty := (.array .int)) (by decide) rfl rfl (Or.inl (List.mem_cons_self ..)) (q := 9) rfl ?_
  intro T2 h2 O2 W2
  have E_a1 := E_a1.wr W2
  have F_routes_a1 := F_routes_a1.same W2
  have F_stayStarts_a1 := F_stayStarts_a1.other W2 (Or.inr (slot_ne (Or.inr (hw _ (List.mem_of_getElem? (i := 19) rfl))) (Or.inr (hw _ (List.mem_of_getElem? (i := 17) rfl))) (by decide) (t := (.array .int)) (t' := (.array .int)) (by decide) (by decide)))
  have F_extended_a1 := F_extended_a1.other W2 (Or.inr (slot_ne (Or.inr (hw _ (List.mem_of_getElem? (i := 21) rfl))) (Or.inr (hw _ (List.mem_of_getElem? (i := 17) rfl))) (by decide) (t := (.array .int)) (t' := (.array .int)) (by decide) (by decide)))
  have F_added_a1 := F_added_a1.other W2 (Or.inr (slot_ne (Or.inr (hw _ (List.mem_of_getElem? (i := 23) rfl))) (Or.inr (hw _ (List.mem_of_getElem? (i := 17) rfl))) (by decide) (t := (.array .int)) (t' := (.array .int)) (by decide) (by decide)))
  refine Jvm.OwnW.aloadN O2 di_9 rfl rfl (q := 10) rfl ?_
  refine Jvm.OwnW.aloadN O2 di_10 rfl rfl (q := 11) rfl ?_
  refine Jvm.OwnW.putF O2 di_11 (host := "") (Or.inl (hw _ (List.mem_of_getElem? (i := 18) rfl))) Via.refl F_stayStarts_a1 E_a1 (Or.inr ⟨hw _ (List.mem_of_getElem? (i := 19) rfl), rfl, rfl⟩) (hw _ (List.mem_of_getElem? (i := 3) rfl)) (ty := (.array .int)) (by decide) rfl rfl (Or.inl (List.mem_cons_self ..)) (q := 14) rfl ?_
  intro T3 h3 O3 W3
  have E_a1 := E_a1.wr W3
  have F_routes_a1 := F_routes_a1.other W3 (Or.inr (slot_ne (Or.inr (hw _ (List.mem_of_getElem? (i := 17) rfl))) (Or.inr (hw _ (List.mem_of_getElem? (i := 19) rfl))) (by decide) (t := (.array .int)) (t' := (.array .int)) (by decide) (by decide)))
  have F_stayStarts_a1 := F_stayStarts_a1.same W3
  have F_extended_a1 := F_extended_a1.other W3 (Or.inr (slot_ne (Or.inr (hw _ (List.mem_of_getElem? (i := 21) rfl))) (Or.inr (hw _ (List.mem_of_getElem? (i := 19) rfl))) (by decide) (t := (.array .int)) (t' := (.array .int)) (by decide) (by decide)))
  have F_added_a1 := F_added_a1.other W3 (Or.inr (slot_ne (Or.inr (hw _ (List.mem_of_getElem? (i := 23) rfl))) (Or.inr (hw _ (List.mem_of_getElem? (i := 19) rfl))) (by decide) (t := (.array .int)) (t' := (.array .int)) (by decide) (by decide)))
  refine Jvm.OwnW.aloadN O3 di_14 rfl rfl (q := 15) rfl ?_
  refine Jvm.OwnW.aloadN O3 di_15 rfl rfl (q := 16) rfl ?_
  refine Jvm.OwnW.putF O3 di_16 (host := "") (Or.inl (hw _ (List.mem_of_getElem? (i := 20) rfl))) Via.refl F_extended_a1 E_a1 (Or.inr ⟨hw _ (List.mem_of_getElem? (i := 21) rfl), rfl, rfl⟩) (hw _ (List.mem_of_getElem? (i := 3) rfl)) (ty := (.array .int)) (by decide) rfl rfl (Or.inl (List.mem_cons_self ..)) (q := 19) rfl ?_
  intro T4 h4 O4 W4
  have E_a1 := E_a1.wr W4
  have F_routes_a1 := F_routes_a1.other W4 (Or.inr (slot_ne (Or.inr (hw _ (List.mem_of_getElem? (i := 17) rfl))) (Or.inr (hw _ (List.mem_of_getElem? (i := 21) rfl))) (by decide) (t := (.array .int)) (t' := (.array .int)) (by decide) (by decide)))
  have F_stayStarts_a1 := F_stayStarts_a1.other W4 (Or.inr (slot_ne (Or.inr (hw _ (List.mem_of_getElem? (i := 19) rfl))) (Or.inr (hw _ (List.mem_of_getElem? (i := 21) rfl))) (by decide) (t := (.array .int)) (t' := (.array .int)) (by decide) (by decide)))
  have F_extended_a1 := F_extended_a1.same W4
  have F_added_a1 := F_added_a1.other W4 (Or.inr (slot_ne (Or.inr (hw _ (List.mem_of_getElem? (i := 23) rfl))) (Or.inr (hw _ (List.mem_of_getElem? (i := 21) rfl))) (by decide) (t := (.array .int)) (t' := (.array .int)) (by decide) (by decide)))
  refine Jvm.OwnW.aloadN O4 di_19 rfl rfl (q := 20) rfl ?_
  refine Jvm.OwnW.aload O4 di_20 rfl rfl (q := 22) rfl ?_
  refine Jvm.OwnW.putF O4 di_22 (host := "") (Or.inl (hw _ (List.mem_of_getElem? (i := 22) rfl))) Via.refl F_added_a1 E_a1 (Or.inr ⟨hw _ (List.mem_of_getElem? (i := 23) rfl), rfl, rfl⟩) (hw _ (List.mem_of_getElem? (i := 3) rfl)) (ty := (.array .int)) (by decide) rfl rfl (Or.inl (List.mem_cons_self ..)) (q := 25) rfl ?_
  intro T5 h5 O5 W5
  have E_a1 := E_a1.wr W5
  have F_routes_a1 := F_routes_a1.other W5 (Or.inr (slot_ne (Or.inr (hw _ (List.mem_of_getElem? (i := 17) rfl))) (Or.inr (hw _ (List.mem_of_getElem? (i := 23) rfl))) (by decide) (t := (.array .int)) (t' := (.array .int)) (by decide) (by decide)))
  have F_stayStarts_a1 := F_stayStarts_a1.other W5 (Or.inr (slot_ne (Or.inr (hw _ (List.mem_of_getElem? (i := 19) rfl))) (Or.inr (hw _ (List.mem_of_getElem? (i := 23) rfl))) (by decide) (t := (.array .int)) (t' := (.array .int)) (by decide) (by decide)))
  have F_extended_a1 := F_extended_a1.other W5 (Or.inr (slot_ne (Or.inr (hw _ (List.mem_of_getElem? (i := 21) rfl))) (Or.inr (hw _ (List.mem_of_getElem? (i := 23) rfl))) (by decide) (t := (.array .int)) (t' := (.array .int)) (by decide) (by decide)))
  have F_added_a1 := F_added_a1.same W5
  exact Jvm.OwnW.ret0 O5 di_25 (by decide) (by decide) ⟨rfl, F_routes_a1, F_stayStarts_a1, F_extended_a1, F_added_a1⟩
theorem du0_0 : decode prog_40_method_2_code 0 = .ok (.iconst 0, 1) := by decide +kernel
theorem du0_1 : decode prog_40_method_2_code 1 = .ok (.istore 5, 2) := by decide +kernel
theorem du0_3 : decode prog_40_method_2_code 3 = .ok (.aload_n 0, 1) := by decide +kernel
theorem du0_4 : decode prog_40_method_2_code 4 = .ok (.getfield 13, 3) := by decide +kernel
theorem du0_7 : decode prog_40_method_2_code 7 = .ok (.iload_n 1, 1) := by decide +kernel
theorem du0_8 : decode prog_40_method_2_code 8 = .ok (.iaload, 1) := by decide +kernel
theorem du0_9 : decode prog_40_method_2_code 9 = .ok (.istore 6, 2) := by decide +kernel
theorem du0_11 : decode prog_40_method_2_code 11 = .ok (.iload 6, 2) := by decide +kernel
theorem du0_13 : decode prog_40_method_2_code 13 = .ok (.aload_n 0, 1) := by decide +kernel
theorem du0_14 : decode prog_40_method_2_code 14 = .ok (.getfield 13, 3) := by decide +kernel
theorem du0_17 : decode prog_40_method_2_code 17 = .ok (.iload_n 1, 1) := by decide +kernel
theorem du0_18 : decode prog_40_method_2_code 18 = .ok (.iconst 1, 1) := by decide +kernel
theorem du0_19 : decode prog_40_method_2_code 19 = .ok (.iadd, 1) := by decide +kernel
theorem du0_20 : decode prog_40_method_2_code 20 = .ok (.iaload, 1) := by decide +kernel
theorem du0_21 : decode prog_40_method_2_code 21 = .ok (.if_icmp .ge 71, 3) := by decide +kernel
theorem du0_24 : decode prog_40_method_2_code 24 = .ok (.aload 4, 2) := by decide +kernel
theorem du0_26 : decode prog_40_method_2_code 26 = .ok (.iload 6, 2) := by decide +kernel
theorem du0_28 : decode prog_40_method_2_code 28 = .ok (.aload_n 0, 1) := by decide +kernel
theorem du0_29 : decode prog_40_method_2_code 29 = .ok (.getfield 16, 3) := by decide +kernel
theorem du0_32 : decode prog_40_method_2_code 32 = .ok (.iload 6, 2) := by decide +kernel
theorem du0_34 : decode prog_40_method_2_code 34 = .ok (.iaload, 1) := by decide +kernel
theorem du0_35 : decode prog_40_method_2_code 35 = .ok (.ifCond .ge 10, 3) := by decide +kernel
theorem du0_38 : decode prog_40_method_2_code 38 = .ok (.bipush 100, 2) := by decide +kernel
theorem du0_40 : decode prog_40_method_2_code 40 = .ok (.iload_n 2, 1) := by decide +kernel
theorem du0_41 : decode prog_40_method_2_code 41 = .ok (.imul, 1) := by decide +kernel
theorem du0_42 : decode prog_40_method_2_code 42 = .ok (.goto 26, 3) := by decide +kernel
theorem du0_45 : decode prog_40_method_2_code 45 = .ok (.aload 4, 2) := by decide +kernel
theorem du0_47 : decode prog_40_method_2_code 47 = .ok (.aload_n 0, 1) := by decide +kernel
theorem du0_48 : decode prog_40_method_2_code 48 = .ok (.getfield 16, 3) := by decide +kernel
theorem du0_51 : decode prog_40_method_2_code 51 = .ok (.iload 6, 2) := by decide +kernel
theorem du0_53 : decode prog_40_method_2_code 53 = .ok (.iaload, 1) := by decide +kernel
theorem du0_54 : decode prog_40_method_2_code 54 = .ok (.iaload, 1) := by decide +kernel
theorem du0_55 : decode prog_40_method_2_code 55 = .ok (.bipush 100, 2) := by decide +kernel
theorem du0_57 : decode prog_40_method_2_code 57 = .ok (.aload_n 3, 1) := by decide +kernel
theorem du0_58 : decode prog_40_method_2_code 58 = .ok (.aload_n 0, 1) := by decide +kernel
theorem du0_59 : decode prog_40_method_2_code 59 = .ok (.getfield 19, 3) := by decide +kernel
theorem du0_62 : decode prog_40_method_2_code 62 = .ok (.iload 6, 2) := by decide +kernel
theorem du0_64 : decode prog_40_method_2_code 64 = .ok (.iaload, 1) := by decide +kernel
theorem du0_65 : decode prog_40_method_2_code 65 = .ok (.iaload, 1) := by decide +kernel
theorem du0_66 : decode prog_40_method_2_code 66 = .ok (.imul, 1) := by decide +kernel
theorem du0_67 : decode prog_40_method_2_code 67 = .ok (.iadd, 1) := by decide +kernel
theorem du0_68 : decode prog_40_method_2_code 68 = .ok (.iastore, 1) := by decide +kernel
theorem du0_69 : decode prog_40_method_2_code 69 = .ok (.aload 4, 2) := by decide +kernel
theorem du0_71 : decode prog_40_method_2_code 71 = .ok (.iload 6, 2) := by decide +kernel
theorem du0_73 : decode prog_40_method_2_code 73 = .ok (.iaload, 1) := by decide +kernel
theorem du0_74 : decode prog_40_method_2_code 74 = .ok (.iload 5, 2) := by decide +kernel
theorem du0_76 : decode prog_40_method_2_code 76 = .ok (.if_icmp .le 10, 3) := by decide +kernel
theorem du0_79 : decode prog_40_method_2_code 79 = .ok (.aload 4, 2) := by decide +kernel
theorem du0_81 : decode prog_40_method_2_code 81 = .ok (.iload 6, 2) := by decide +kernel
theorem du0_83 : decode prog_40_method_2_code 83 = .ok (.iaload, 1) := by decide +kernel
theorem du0_84 : decode prog_40_method_2_code 84 = .ok (.istore 5, 2) := by decide +kernel
theorem du0_86 : decode prog_40_method_2_code 86 = .ok (.iinc 6 1, 3) := by decide +kernel
theorem du0_89 : decode prog_40_method_2_code 89 = .ok (.goto (-78), 3) := by decide +kernel
theorem du0_92 : decode prog_40_method_2_code 92 = .ok (.iload 5, 2) := by decide +kernel
theorem du0_94 : decode prog_40_method_2_code 94 = .ok (.ireturn, 1) := by decide +kernel
theorem ef_u0 (a1 : Addr) (su : Int32) (av : Addr) (au : Addr) (ast ax ad : Addr) (t0 t1 t2 pre : Int32) (m : MethodId) : entryFrame m #[(.ref a1), (.int (0 : Int32)), (.int su), (.ref av), (.ref au)] 7 = mkF m 0 #[.val (.ref a1), .val (.int (0 : Int32)), .val (.int su), .val (.ref av), .val (.ref au), .unset, .unset] [] := by first | (simp [entryFrame, mkF, argsToLocals, Value.category, maxLocals]; done) | rfl
theorem pn_u0 : plainFor (⟨"com/example/bidwright/bidwright/game/ClientOptions$RouteList", "putUtilities", "(II[I[I)I"⟩ : MethodName) = true := by first | exact plainFor_of_name (by first | (simp [plainName, overriddenIn]; done) | decide +kernel) | decide +kernel
set_option maxRecDepth 65536 in
set_option maxHeartbeats 40000000 in
theorem rm_u0 (l : Launch) (Z : State) (a0 : Array Value) (hw : ∀ d ∈ tables_1, d.before a0 Z = true) (a1 : Addr) (su : Int32) (av : Addr) (au : Addr) (ast ax ad : Addr) (t0 t1 t2 pre : Int32) (h0 : Heap) (E_a1 : Exa Z h0 a1 "com/example/bidwright/bidwright/game/ClientOptions$RouteList") (F_stayStarts_a1 : Fld Z h0 a1 "com/example/bidwright/bidwright/game/ClientOptions$RouteList" "stayStarts" "[I" (.ref ast)) (F_extended_a1 : Fld Z h0 a1 "com/example/bidwright/bidwright/game/ClientOptions$RouteList" "extended" "[I" (.ref ax)) (F_added_a1 : Fld Z h0 a1 "com/example/bidwright/bidwright/game/ClientOptions$RouteList" "added" "[I" (.ref ad)) (V_ast : Ar Z h0 ast .int 4 (lf [(.int (0 : Int32)), (.int (4 : Int32)), (.int (6 : Int32)), (.int (6 : Int32))])) (V_ax : Ar Z h0 ax .int 7 (lf [(.int (-1 : Int32)), (.int (0 : Int32)), (.int (1 : Int32)), (.int (0 : Int32)), (.int (-1 : Int32)), (.int (4 : Int32)), (.int (-1 : Int32))])) (V_ad : Ar Z h0 ad .int 7 (lf [(.int (-1 : Int32)), (.int (0 : Int32)), (.int (1 : Int32)), (.int (2 : Int32)), (.int (-1 : Int32)), (.int (1 : Int32)), (.int (-1 : Int32))])) (V_av : Ar Z h0 av .int 3 (lf [(.int t0), (.int t1), (.int t2)])) (V_au : Ar Z h0 au .int 7 (lf [(.int pre), (.int pre), (.int pre), (.int pre), (.int pre), (.int pre), (.int pre)])) (ne_a1 : a1 ≠ au) (ne_ast : ast ≠ au) (ne_ax : ax ≠ au) (ne_ad : ad ≠ au) (ne_av : av ≠ au) :
    Met l Z (⟨"com/example/bidwright/bidwright/game/ClientOptions$RouteList", "putUtilities", "(II[I[I)I"⟩ : MethodName) prog_40_method_2_code 7 (some .int) [] ({ frames := 0, cells := 0, slots := 0, locals := 0 } : Room) #[(.ref a1), (.int (0 : Int32)), (.int su), (.ref av), (.ref au)] [au] h0 (fun v h => v = some (.int (fn_m (fn_m (fn_m (fn_m (0 : Int32) ((100 : Int32) * su)) (((100 : Int32) * su) + ((100 : Int32) * t0))) ((((100 : Int32) * su) + ((100 : Int32) * t0)) + ((100 : Int32) * t1))) (((100 : Int32) * su) + ((100 : Int32) * t2)))) ∧ Ar Z h au .int 7 (lf [(.int ((100 : Int32) * su)), (.int (((100 : Int32) * su) + ((100 : Int32) * t0))), (.int ((((100 : Int32) * su) + ((100 : Int32) * t0)) + ((100 : Int32) * t1))), (.int (((100 : Int32) * su) + ((100 : Int32) * t2))), (.int pre), (.int pre), (.int pre)])) := by
  refine Met.mk pn_u0 (ef_u0 a1 su av au ast ax ad t0 t1 t2 pre) ?_
  intro C T hs0 O
  show Go C [au] (fun v h => v = some (.int (fn_m (fn_m (fn_m (fn_m (0 : Int32) ((100 : Int32) * su)) (((100 : Int32) * su) + ((100 : Int32) * t0))) ((((100 : Int32) * su) + ((100 : Int32) * t0)) + ((100 : Int32) * t1))) (((100 : Int32) * su) + ((100 : Int32) * t2)))) ∧ Ar Z h au .int 7 (lf [(.int ((100 : Int32) * su)), (.int (((100 : Int32) * su) + ((100 : Int32) * t0))), (.int ((((100 : Int32) * su) + ((100 : Int32) * t0)) + ((100 : Int32) * t1))), (.int (((100 : Int32) * su) + ((100 : Int32) * t2))), (.int pre), (.int pre), (.int pre)])) 0 0 (T.setTop (mkF C.m 0 #[.val (.ref a1), .val (.int (0 : Int32)), .val (.int su), .val (.ref av), .val (.ref au), .unset, .unset] []))
  refine Jvm.OwnW.iconst O du0_0 (r := (0 : Int32)) rfl (q := 1) rfl ?_
  refine Jvm.OwnW.istore O du0_1 (L' := #[.val (.ref a1), .val (.int (0 : Int32)), .val (.int su), .val (.ref av), .val (.ref au), .val (.int (0 : Int32)), .unset]) rfl (q := 3) rfl ?_
  refine Jvm.OwnW.aloadN O du0_3 rfl rfl (q := 4) rfl ?_
  refine Jvm.OwnW.getF O du0_4 (host := "") (Or.inl (hw _ (List.mem_of_getElem? (i := 18) rfl))) Via.refl F_stayStarts_a1 (q := 7) rfl ?_
  intro T1 O1
  refine Jvm.OwnW.iloadN O1 du0_7 rfl (q := 8) rfl ?_
  refine Jvm.OwnW.ialA O1 du0_8 V_ast (i := 0) rfl (by decide) (v := (.int (0 : Int32))) rfl (q := 9) rfl ?_
  refine Jvm.OwnW.istore O1 du0_9 (L' := #[.val (.ref a1), .val (.int (0 : Int32)), .val (.int su), .val (.ref av), .val (.ref au), .val (.int (0 : Int32)), .val (.int (0 : Int32))]) rfl (q := 11) rfl ?_
  refine Jvm.OwnW.iload O1 du0_11 rfl (q := 13) rfl ?_
  refine Jvm.OwnW.aloadN O1 du0_13 rfl rfl (q := 14) rfl ?_
  refine Jvm.OwnW.getF O1 du0_14 (host := "") (Or.inl (hw _ (List.mem_of_getElem? (i := 18) rfl))) Via.refl F_stayStarts_a1 (q := 17) rfl ?_
  intro T2 O2
  refine Jvm.OwnW.iloadN O2 du0_17 rfl (q := 18) rfl ?_
  refine Jvm.OwnW.iconst O2 du0_18 (r := (1 : Int32)) rfl (q := 19) rfl ?_
  refine Jvm.OwnW.iadd O2 du0_19 (r := (1 : Int32)) (by decide) (q := 20) rfl ?_
  refine Jvm.OwnW.ialA O2 du0_20 V_ast (i := 1) rfl (by decide) (v := (.int (4 : Int32))) rfl (q := 21) rfl ?_
  refine Jvm.OwnW.icmpNo O2 du0_21 (tlt (show (0 : Int32) < (4 : Int32) from (by decide))).2.1 (q := 24) rfl ?_
  refine Jvm.OwnW.aload O2 du0_24 rfl rfl (q := 26) rfl ?_
  refine Jvm.OwnW.iload O2 du0_26 rfl (q := 28) rfl ?_
  refine Jvm.OwnW.aloadN O2 du0_28 rfl rfl (q := 29) rfl ?_
  refine Jvm.OwnW.getF O2 du0_29 (host := "") (Or.inl (hw _ (List.mem_of_getElem? (i := 20) rfl))) Via.refl F_extended_a1 (q := 32) rfl ?_
  intro T3 O3
  refine Jvm.OwnW.iload O3 du0_32 rfl (q := 34) rfl ?_
  refine Jvm.OwnW.ialA O3 du0_34 V_ax (i := 0) rfl (by decide) (v := (.int (-1 : Int32))) rfl (q := 35) rfl ?_
  refine Jvm.OwnW.ifNo O3 du0_35 (tlt0 (show (-1 : Int32) < (0 : Int32) from (by decide))).2 (q := 38) rfl ?_
  refine Jvm.OwnW.bipush O3 du0_38 (r := (100 : Int32)) rfl (q := 40) rfl ?_
  refine Jvm.OwnW.iloadN O3 du0_40 rfl (q := 41) rfl ?_
  refine Jvm.OwnW.imul O3 du0_41 rfl (q := 42) rfl ?_
  refine Jvm.OwnW.goto O3 du0_42 (by decide) (q := 68) rfl ?_
  refine Jvm.OwnW.iasA O3 du0_68 V_au (i := 0) rfl (by decide) (Or.inl (List.mem_cons_self ..)) (q := 69) rfl ?_
  intro T4 h4 O4 W4
  have V_au : Ar Z h4 au .int 7 (lf [(.int ((100 : Int32) * su)), (.int pre), (.int pre), (.int pre), (.int pre), (.int pre), (.int pre)]) := V_au.setL W4 (by decide) (Nat.le_of_ble_eq_true rfl)
  have E_a1 := E_a1.wr W4
  have F_stayStarts_a1 := F_stayStarts_a1.other W4 (Or.inl ne_a1)
  have F_extended_a1 := F_extended_a1.other W4 (Or.inl ne_a1)
  have F_added_a1 := F_added_a1.other W4 (Or.inl ne_a1)
  have V_ast := V_ast.other W4 ne_ast
  have V_ax := V_ax.other W4 ne_ax
  have V_ad := V_ad.other W4 ne_ad
  have V_av := V_av.other W4 ne_av
  have J86 : ∀ (T6 : State), On l Z [au] ({ frames := 0, cells := 0, slots := 0, locals := 0 } : Room) "com/example/bidwright/bidwright/game/ClientOptions$RouteList" "putUtilities" prog_40_method_2_code 7 (some .int) C T6 h4 0 0 → ∀ (b5 : Int32), ∀ (hb5 : (fn_m (0 : Int32) ((100 : Int32) * su)) = b5), Go C [au] (fun v h => v = some (.int (fn_m (fn_m (fn_m (fn_m (0 : Int32) ((100 : Int32) * su)) (((100 : Int32) * su) + ((100 : Int32) * t0))) ((((100 : Int32) * su) + ((100 : Int32) * t0)) + ((100 : Int32) * t1))) (((100 : Int32) * su) + ((100 : Int32) * t2)))) ∧ Ar Z h au .int 7 (lf [(.int ((100 : Int32) * su)), (.int (((100 : Int32) * su) + ((100 : Int32) * t0))), (.int ((((100 : Int32) * su) + ((100 : Int32) * t0)) + ((100 : Int32) * t1))), (.int (((100 : Int32) * su) + ((100 : Int32) * t2))), (.int pre), (.int pre), (.int pre)])) 0 0 (T6.setTop (mkF C.m 86 #[.val (.ref a1), .val (.int (0 : Int32)), .val (.int su), .val (.ref av), .val (.ref au), .val (.int b5), .val (.int (0 : Int32))] [])) := by
    intro T6 O6 b5 hb5 
    subst hb5
    refine Jvm.OwnW.iinc O6 du0_86 rfl (L' := #[.val (.ref a1), .val (.int (0 : Int32)), .val (.int su), .val (.ref av), .val (.ref au), .val (.int (fn_m (0 : Int32) ((100 : Int32) * su))), .val (.int (1 : Int32))]) rfl (q := 89) rfl ?_
    refine Jvm.OwnW.goto O6 du0_89 (by decide) (q := 11) rfl ?_
    refine Jvm.OwnW.iload O6 du0_11 rfl (q := 13) rfl ?_
    refine Jvm.OwnW.aloadN O6 du0_13 rfl rfl (q := 14) rfl ?_
    refine Jvm.OwnW.getF O6 du0_14 (host := "") (Or.inl (hw _ (List.mem_of_getElem? (i := 18) rfl))) Via.refl F_stayStarts_a1 (q := 17) rfl ?_
    intro T7 O7
    refine Jvm.OwnW.iloadN O7 du0_17 rfl (q := 18) rfl ?_
    refine Jvm.OwnW.iconst O7 du0_18 (r := (1 : Int32)) rfl (q := 19) rfl ?_
    refine Jvm.OwnW.iadd O7 du0_19 (r := (1 : Int32)) (by decide) (q := 20) rfl ?_
    refine Jvm.OwnW.ialA O7 du0_20 V_ast (i := 1) rfl (by decide) (v := (.int (4 : Int32))) rfl (q := 21) rfl ?_
    refine Jvm.OwnW.icmpNo O7 du0_21 (tlt (show (1 : Int32) < (4 : Int32) from (by decide))).2.1 (q := 24) rfl ?_
    refine Jvm.OwnW.aload O7 du0_24 rfl rfl (q := 26) rfl ?_
    refine Jvm.OwnW.iload O7 du0_26 rfl (q := 28) rfl ?_
    refine Jvm.OwnW.aloadN O7 du0_28 rfl rfl (q := 29) rfl ?_
    refine Jvm.OwnW.getF O7 du0_29 (host := "") (Or.inl (hw _ (List.mem_of_getElem? (i := 20) rfl))) Via.refl F_extended_a1 (q := 32) rfl ?_
    intro T8 O8
    refine Jvm.OwnW.iload O8 du0_32 rfl (q := 34) rfl ?_
    refine Jvm.OwnW.ialA O8 du0_34 V_ax (i := 1) rfl (by decide) (v := (.int (0 : Int32))) rfl (q := 35) rfl ?_
    refine Jvm.OwnW.ifYes O8 du0_35 (flt0 (show ¬ ((0 : Int32) < (0 : Int32)) from (by decide))).2 (by decide) (q := 45) rfl ?_
    refine Jvm.OwnW.aload O8 du0_45 rfl rfl (q := 47) rfl ?_
    refine Jvm.OwnW.aloadN O8 du0_47 rfl rfl (q := 48) rfl ?_
    refine Jvm.OwnW.getF O8 du0_48 (host := "") (Or.inl (hw _ (List.mem_of_getElem? (i := 20) rfl))) Via.refl F_extended_a1 (q := 51) rfl ?_
    intro T9 O9
    refine Jvm.OwnW.iload O9 du0_51 rfl (q := 53) rfl ?_
    refine Jvm.OwnW.ialA O9 du0_53 V_ax (i := 1) rfl (by decide) (v := (.int (0 : Int32))) rfl (q := 54) rfl ?_
    refine Jvm.OwnW.ialA O9 du0_54 V_au (i := 0) rfl (by decide) (v := (.int ((100 : Int32) * su))) rfl (q := 55) rfl ?_
    refine Jvm.OwnW.bipush O9 du0_55 (r := (100 : Int32)) rfl (q := 57) rfl ?_
    refine Jvm.OwnW.aloadN O9 du0_57 rfl rfl (q := 58) rfl ?_
    refine Jvm.OwnW.aloadN O9 du0_58 rfl rfl (q := 59) rfl ?_
    refine Jvm.OwnW.getF O9 du0_59 (host := "") (Or.inl (hw _ (List.mem_of_getElem? (i := 22) rfl))) Via.refl F_added_a1 (q := 62) rfl ?_
    intro T10 O10
    refine Jvm.OwnW.iload O10 du0_62 rfl (q := 64) rfl ?_
    refine Jvm.OwnW.ialA O10 du0_64 V_ad (i := 1) rfl (by decide) (v := (.int (0 : Int32))) rfl (q := 65) rfl ?_
    refine Jvm.OwnW.ialA O10 du0_65 V_av (i := 0) rfl (by decide) (v := (.int t0)) rfl (q := 66) rfl ?_
    refine Jvm.OwnW.imul O10 du0_66 rfl (q := 67) rfl ?_
    refine Jvm.OwnW.iadd O10 du0_67 rfl (q := 68) rfl ?_
    refine Jvm.OwnW.iasA O10 du0_68 V_au (i := 1) rfl (by decide) (Or.inl (List.mem_cons_self ..)) (q := 69) rfl ?_
    intro T11 h11 O11 W11
    have V_au : Ar Z h11 au .int 7 (lf [(.int ((100 : Int32) * su)), (.int (((100 : Int32) * su) + ((100 : Int32) * t0))), (.int pre), (.int pre), (.int pre), (.int pre), (.int pre)]) := V_au.setL W11 (by decide) (Nat.le_of_ble_eq_true rfl)
    have E_a1 := E_a1.wr W11
    have F_stayStarts_a1 := F_stayStarts_a1.other W11 (Or.inl ne_a1)
    have F_extended_a1 := F_extended_a1.other W11 (Or.inl ne_a1)
    have F_added_a1 := F_added_a1.other W11 (Or.inl ne_a1)
    have V_ast := V_ast.other W11 ne_ast
    have V_ax := V_ax.other W11 ne_ax
    have V_ad := V_ad.other W11 ne_ad
    have V_av := V_av.other W11 ne_av
    have J86 : ∀ (T13 : State), On l Z [au] ({ frames := 0, cells := 0, slots := 0, locals := 0 } : Room) "com/example/bidwright/bidwright/game/ClientOptions$RouteList" "putUtilities" prog_40_method_2_code 7 (some .int) C T13 h11 0 0 → ∀ (b12 : Int32), ∀ (hb12 : (fn_m (fn_m (0 : Int32) ((100 : Int32) * su)) (((100 : Int32) * su) + ((100 : Int32) * t0))) = b12), Go C [au] (fun v h => v = some (.int (fn_m (fn_m (fn_m (fn_m (0 : Int32) ((100 : Int32) * su)) (((100 : Int32) * su) + ((100 : Int32) * t0))) ((((100 : Int32) * su) + ((100 : Int32) * t0)) + ((100 : Int32) * t1))) (((100 : Int32) * su) + ((100 : Int32) * t2)))) ∧ Ar Z h au .int 7 (lf [(.int ((100 : Int32) * su)), (.int (((100 : Int32) * su) + ((100 : Int32) * t0))), (.int ((((100 : Int32) * su) + ((100 : Int32) * t0)) + ((100 : Int32) * t1))), (.int (((100 : Int32) * su) + ((100 : Int32) * t2))), (.int pre), (.int pre), (.int pre)])) 0 0 (T13.setTop (mkF C.m 86 #[.val (.ref a1), .val (.int (0 : Int32)), .val (.int su), .val (.ref av), .val (.ref au), .val (.int b12), .val (.int (1 : Int32))] [])) := by
      intro T13 O13 b12 hb12 
      subst hb12
      refine Jvm.OwnW.iinc O13 du0_86 rfl (L' := #[.val (.ref a1), .val (.int (0 : Int32)), .val (.int su), .val (.ref av), .val (.ref au), .val (.int (fn_m (fn_m (0 : Int32) ((100 : Int32) * su)) (((100 : Int32) * su) + ((100 : Int32) * t0)))), .val (.int (2 : Int32))]) rfl (q := 89) rfl ?_
      refine Jvm.OwnW.goto O13 du0_89 (by decide) (q := 11) rfl ?_
      refine Jvm.OwnW.iload O13 du0_11 rfl (q := 13) rfl ?_
      refine Jvm.OwnW.aloadN O13 du0_13 rfl rfl (q := 14) rfl ?_
      refine Jvm.OwnW.getF O13 du0_14 (host := "") (Or.inl (hw _ (List.mem_of_getElem? (i := 18) rfl))) Via.refl F_stayStarts_a1 (q := 17) rfl ?_
      intro T14 O14
      refine Jvm.OwnW.iloadN O14 du0_17 rfl (q := 18) rfl ?_
      refine Jvm.OwnW.iconst O14 du0_18 (r := (1 : Int32)) rfl (q := 19) rfl ?_
      refine Jvm.OwnW.iadd O14 du0_19 (r := (1 : Int32)) (by decide) (q := 20) rfl ?_
      refine Jvm.OwnW.ialA O14 du0_20 V_ast (i := 1) rfl (by decide) (v := (.int (4 : Int32))) rfl (q := 21) rfl ?_
      refine Jvm.OwnW.icmpNo O14 du0_21 (tlt (show (2 : Int32) < (4 : Int32) from (by decide))).2.1 (q := 24) rfl ?_
      refine Jvm.OwnW.aload O14 du0_24 rfl rfl (q := 26) rfl ?_
      refine Jvm.OwnW.iload O14 du0_26 rfl (q := 28) rfl ?_
      refine Jvm.OwnW.aloadN O14 du0_28 rfl rfl (q := 29) rfl ?_
      refine Jvm.OwnW.getF O14 du0_29 (host := "") (Or.inl (hw _ (List.mem_of_getElem? (i := 20) rfl))) Via.refl F_extended_a1 (q := 32) rfl ?_
      intro T15 O15
      refine Jvm.OwnW.iload O15 du0_32 rfl (q := 34) rfl ?_
      refine Jvm.OwnW.ialA O15 du0_34 V_ax (i := 2) rfl (by decide) (v := (.int (1 : Int32))) rfl (q := 35) rfl ?_
      refine Jvm.OwnW.ifYes O15 du0_35 (flt0 (show ¬ ((1 : Int32) < (0 : Int32)) from (by decide))).2 (by decide) (q := 45) rfl ?_
      refine Jvm.OwnW.aload O15 du0_45 rfl rfl (q := 47) rfl ?_
      refine Jvm.OwnW.aloadN O15 du0_47 rfl rfl (q := 48) rfl ?_
      refine Jvm.OwnW.getF O15 du0_48 (host := "") (Or.inl (hw _ (List.mem_of_getElem? (i := 20) rfl))) Via.refl F_extended_a1 (q := 51) rfl ?_
      intro T16 O16
      refine Jvm.OwnW.iload O16 du0_51 rfl (q := 53) rfl ?_
      refine Jvm.OwnW.ialA O16 du0_53 V_ax (i := 2) rfl (by decide) (v := (.int (1 : Int32))) rfl (q := 54) rfl ?_
      refine Jvm.OwnW.ialA O16 du0_54 V_au (i := 1) rfl (by decide) (v := (.int (((100 : Int32) * su) + ((100 : Int32) * t0)))) rfl (q := 55) rfl ?_
      refine Jvm.OwnW.bipush O16 du0_55 (r := (100 : Int32)) rfl (q := 57) rfl ?_
      refine Jvm.OwnW.aloadN O16 du0_57 rfl rfl (q := 58) rfl ?_
      refine Jvm.OwnW.aloadN O16 du0_58 rfl rfl (q := 59) rfl ?_
      refine Jvm.OwnW.getF O16 du0_59 (host := "") (Or.inl (hw _ (List.mem_of_getElem? (i := 22) rfl))) Via.refl F_added_a1 (q := 62) rfl ?_
      intro T17 O17
      refine Jvm.OwnW.iload O17 du0_62 rfl (q := 64) rfl ?_
      refine Jvm.OwnW.ialA O17 du0_64 V_ad (i := 2) rfl (by decide) (v := (.int (1 : Int32))) rfl (q := 65) rfl ?_
      refine Jvm.OwnW.ialA O17 du0_65 V_av (i := 1) rfl (by decide) (v := (.int t1)) rfl (q := 66) rfl ?_
      refine Jvm.OwnW.imul O17 du0_66 rfl (q := 67) rfl ?_
      refine Jvm.OwnW.iadd O17 du0_67 rfl (q := 68) rfl ?_
      refine Jvm.OwnW.iasA O17 du0_68 V_au (i := 2) rfl (by decide) (Or.inl (List.mem_cons_self ..)) (q := 69) rfl ?_
      intro T18 h18 O18 W18
      have V_au : Ar Z h18 au .int 7 (lf [(.int ((100 : Int32) * su)), (.int (((100 : Int32) * su) + ((100 : Int32) * t0))), (.int ((((100 : Int32) * su) + ((100 : Int32) * t0)) + ((100 : Int32) * t1))), (.int pre), (.int pre), (.int pre), (.int pre)]) := V_au.setL W18 (by decide) (Nat.le_of_ble_eq_true rfl)
      have E_a1 := E_a1.wr W18
      have F_stayStarts_a1 := F_stayStarts_a1.other W18 (Or.inl ne_a1)
      have F_extended_a1 := F_extended_a1.other W18 (Or.inl ne_a1)
      have F_added_a1 := F_added_a1.other W18 (Or.inl ne_a1)
      have V_ast := V_ast.other W18 ne_ast
      have V_ax := V_ax.other W18 ne_ax
      have V_ad := V_ad.other W18 ne_ad
      have V_av := V_av.other W18 ne_av
      have J86 : ∀ (T20 : State), On l Z [au] ({ frames := 0, cells := 0, slots := 0, locals := 0 } : Room) "com/example/bidwright/bidwright/game/ClientOptions$RouteList" "putUtilities" prog_40_method_2_code 7 (some .int) C T20 h18 0 0 → ∀ (b19 : Int32), ∀ (hb19 : (fn_m (fn_m (fn_m (0 : Int32) ((100 : Int32) * su)) (((100 : Int32) * su) + ((100 : Int32) * t0))) ((((100 : Int32) * su) + ((100 : Int32) * t0)) + ((100 : Int32) * t1))) = b19), Go C [au] (fun v h => v = some (.int (fn_m (fn_m (fn_m (fn_m (0 : Int32) ((100 : Int32) * su)) (((100 : Int32) * su) + ((100 : Int32) * t0))) ((((100 : Int32) * su) + ((100 : Int32) * t0)) + ((100 : Int32) * t1))) (((100 : Int32) * su) + ((100 : Int32) * t2)))) ∧ Ar Z h au .int 7 (lf [(.int ((100 : Int32) * su)), (.int (((100 : Int32) * su) + ((100 : Int32) * t0))), (.int ((((100 : Int32) * su) + ((100 : Int32) * t0)) + ((100 : Int32) * t1))), (.int (((100 : Int32) * su) + ((100 : Int32) * t2))), (.int pre), (.int pre), (.int pre)])) 0 0 (T20.setTop (mkF C.m 86 #[.val (.ref a1), .val (.int (0 : Int32)), .val (.int su), .val (.ref av), .val (.ref au), .val (.int b19), .val (.int (2 : Int32))] [])) := by
        intro T20 O20 b19 hb19 
        subst hb19
        refine Jvm.OwnW.iinc O20 du0_86 rfl (L' := #[.val (.ref a1), .val (.int (0 : Int32)), .val (.int su), .val (.ref av), .val (.ref au), .val (.int (fn_m (fn_m (fn_m (0 : Int32) ((100 : Int32) * su)) (((100 : Int32) * su) + ((100 : Int32) * t0))) ((((100 : Int32) * su) + ((100 : Int32) * t0)) + ((100 : Int32) * t1)))), .val (.int (3 : Int32))]) rfl (q := 89) rfl ?_
        refine Jvm.OwnW.goto O20 du0_89 (by decide) (q := 11) rfl ?_
        refine Jvm.OwnW.iload O20 du0_11 rfl (q := 13) rfl ?_
        refine Jvm.OwnW.aloadN O20 du0_13 rfl rfl (q := 14) rfl ?_
        refine Jvm.OwnW.getF O20 du0_14 (host := "") (Or.inl (hw _ (List.mem_of_getElem? (i := 18) rfl))) Via.refl F_stayStarts_a1 (q := 17) rfl ?_
        intro T21 O21
        refine Jvm.OwnW.iloadN O21 du0_17 rfl (q := 18) rfl ?_
        refine Jvm.OwnW.iconst O21 du0_18 (r := (1 : Int32)) rfl (q := 19) rfl ?_
        refine Jvm.OwnW.iadd O21 du0_19 (r := (1 : Int32)) (by decide) (q := 20) rfl ?_
        refine Jvm.OwnW.ialA O21 du0_20 V_ast (i := 1) rfl (by decide) (v := (.int (4 : Int32))) rfl (q := 21) rfl ?_
        refine Jvm.OwnW.icmpNo O21 du0_21 (tlt (show (3 : Int32) < (4 : Int32) from (by decide))).2.1 (q := 24) rfl ?_
        refine Jvm.OwnW.aload O21 du0_24 rfl rfl (q := 26) rfl ?_
        refine Jvm.OwnW.iload O21 du0_26 rfl (q := 28) rfl ?_
        refine Jvm.OwnW.aloadN O21 du0_28 rfl rfl (q := 29) rfl ?_
        refine Jvm.OwnW.getF O21 du0_29 (host := "") (Or.inl (hw _ (List.mem_of_getElem? (i := 20) rfl))) Via.refl F_extended_a1 (q := 32) rfl ?_
        intro T22 O22
        refine Jvm.OwnW.iload O22 du0_32 rfl (q := 34) rfl ?_
        refine Jvm.OwnW.ialA O22 du0_34 V_ax (i := 3) rfl (by decide) (v := (.int (0 : Int32))) rfl (q := 35) rfl ?_
        refine Jvm.OwnW.ifYes O22 du0_35 (flt0 (show ¬ ((0 : Int32) < (0 : Int32)) from (by decide))).2 (by decide) (q := 45) rfl ?_
        refine Jvm.OwnW.aload O22 du0_45 rfl rfl (q := 47) rfl ?_
        refine Jvm.OwnW.aloadN O22 du0_47 rfl rfl (q := 48) rfl ?_
        refine Jvm.OwnW.getF O22 du0_48 (host := "") (Or.inl (hw _ (List.mem_of_getElem? (i := 20) rfl))) Via.refl F_extended_a1 (q := 51) rfl ?_
        intro T23 O23
        refine Jvm.OwnW.iload O23 du0_51 rfl (q := 53) rfl ?_
        refine Jvm.OwnW.ialA O23 du0_53 V_ax (i := 3) rfl (by decide) (v := (.int (0 : Int32))) rfl (q := 54) rfl ?_
        refine Jvm.OwnW.ialA O23 du0_54 V_au (i := 0) rfl (by decide) (v := (.int ((100 : Int32) * su))) rfl (q := 55) rfl ?_
        refine Jvm.OwnW.bipush O23 du0_55 (r := (100 : Int32)) rfl (q := 57) rfl ?_
        refine Jvm.OwnW.aloadN O23 du0_57 rfl rfl (q := 58) rfl ?_
        refine Jvm.OwnW.aloadN O23 du0_58 rfl rfl (q := 59) rfl ?_
        refine Jvm.OwnW.getF O23 du0_59 (host := "") (Or.inl (hw _ (List.mem_of_getElem? (i := 22) rfl))) Via.refl F_added_a1 (q := 62) rfl ?_
        intro T24 O24
        refine Jvm.OwnW.iload O24 du0_62 rfl (q := 64) rfl ?_
        refine Jvm.OwnW.ialA O24 du0_64 V_ad (i := 3) rfl (by decide) (v := (.int (2 : Int32))) rfl (q := 65) rfl ?_
        refine Jvm.OwnW.ialA O24 du0_65 V_av (i := 2) rfl (by decide) (v := (.int t2)) rfl (q := 66) rfl ?_
        refine Jvm.OwnW.imul O24 du0_66 rfl (q := 67) rfl ?_
        refine Jvm.OwnW.iadd O24 du0_67 rfl (q := 68) rfl ?_
        refine Jvm.OwnW.iasA O24 du0_68 V_au (i := 3) rfl (by decide) (Or.inl (List.mem_cons_self ..)) (q := 69) rfl ?_
        intro T25 h25 O25 W25
        have V_au : Ar Z h25 au .int 7 (lf [(.int ((100 : Int32) * su)), (.int (((100 : Int32) * su) + ((100 : Int32) * t0))), (.int ((((100 : Int32) * su) + ((100 : Int32) * t0)) + ((100 : Int32) * t1))), (.int (((100 : Int32) * su) + ((100 : Int32) * t2))), (.int pre), (.int pre), (.int pre)]) := V_au.setL W25 (by decide) (Nat.le_of_ble_eq_true rfl)
        have E_a1 := E_a1.wr W25
        have F_stayStarts_a1 := F_stayStarts_a1.other W25 (Or.inl ne_a1)
        have F_extended_a1 := F_extended_a1.other W25 (Or.inl ne_a1)
        have F_added_a1 := F_added_a1.other W25 (Or.inl ne_a1)
        have V_ast := V_ast.other W25 ne_ast
        have V_ax := V_ax.other W25 ne_ax
        have V_ad := V_ad.other W25 ne_ad
        have V_av := V_av.other W25 ne_av
        have J86 : ∀ (T27 : State), On l Z [au] ({ frames := 0, cells := 0, slots := 0, locals := 0 } : Room) "com/example/bidwright/bidwright/game/ClientOptions$RouteList" "putUtilities" prog_40_method_2_code 7 (some .int) C T27 h25 0 0 → ∀ (b26 : Int32), ∀ (hb26 : (fn_m (fn_m (fn_m (fn_m (0 : Int32) ((100 : Int32) * su)) (((100 : Int32) * su) + ((100 : Int32) * t0))) ((((100 : Int32) * su) + ((100 : Int32) * t0)) + ((100 : Int32) * t1))) (((100 : Int32) * su) + ((100 : Int32) * t2))) = b26), Go C [au] (fun v h => v = some (.int (fn_m (fn_m (fn_m (fn_m (0 : Int32) ((100 : Int32) * su)) (((100 : Int32) * su) + ((100 : Int32) * t0))) ((((100 : Int32) * su) + ((100 : Int32) * t0)) + ((100 : Int32) * t1))) (((100 : Int32) * su) + ((100 : Int32) * t2)))) ∧ Ar Z h au .int 7 (lf [(.int ((100 : Int32) * su)), (.int (((100 : Int32) * su) + ((100 : Int32) * t0))), (.int ((((100 : Int32) * su) + ((100 : Int32) * t0)) + ((100 : Int32) * t1))), (.int (((100 : Int32) * su) + ((100 : Int32) * t2))), (.int pre), (.int pre), (.int pre)])) 0 0 (T27.setTop (mkF C.m 86 #[.val (.ref a1), .val (.int (0 : Int32)), .val (.int su), .val (.ref av), .val (.ref au), .val (.int b26), .val (.int (3 : Int32))] [])) := by
          intro T27 O27 b26 hb26 
          subst hb26
          refine Jvm.OwnW.iinc O27 du0_86 rfl (L' := #[.val (.ref a1), .val (.int (0 : Int32)), .val (.int su), .val (.ref av), .val (.ref au), .val (.int (fn_m (fn_m (fn_m (fn_m (0 : Int32) ((100 : Int32) * su)) (((100 : Int32) * su) + ((100 : Int32) * t0))) ((((100 : Int32) * su) + ((100 : Int32) * t0)) + ((100 : Int32) * t1))) (((100 : Int32) * su) + ((100 : Int32) * t2)))), .val (.int (4 : Int32))]) rfl (q := 89) rfl ?_
          refine Jvm.OwnW.goto O27 du0_89 (by decide) (q := 11) rfl ?_
          refine Jvm.OwnW.iload O27 du0_11 rfl (q := 13) rfl ?_
          refine Jvm.OwnW.aloadN O27 du0_13 rfl rfl (q := 14) rfl ?_
          refine Jvm.OwnW.getF O27 du0_14 (host := "") (Or.inl (hw _ (List.mem_of_getElem? (i := 18) rfl))) Via.refl F_stayStarts_a1 (q := 17) rfl ?_
          intro T28 O28
          refine Jvm.OwnW.iloadN O28 du0_17 rfl (q := 18) rfl ?_
          refine Jvm.OwnW.iconst O28 du0_18 (r := (1 : Int32)) rfl (q := 19) rfl ?_
          refine Jvm.OwnW.iadd O28 du0_19 (r := (1 : Int32)) (by decide) (q := 20) rfl ?_
          refine Jvm.OwnW.ialA O28 du0_20 V_ast (i := 1) rfl (by decide) (v := (.int (4 : Int32))) rfl (q := 21) rfl ?_
          refine Jvm.OwnW.icmpYes O28 du0_21 (flt (show ¬ ((4 : Int32) < (4 : Int32)) from (by decide))).2.1 (by decide) (q := 92) rfl ?_
          refine Jvm.OwnW.iload O28 du0_92 rfl (q := 94) rfl ?_
          exact Jvm.OwnW.retI O28 du0_94 rfl (by decide) (by decide) ⟨rfl, V_au⟩
        refine Jvm.OwnW.aload O25 du0_69 rfl rfl (q := 71) rfl ?_
        refine Jvm.OwnW.iload O25 du0_71 rfl (q := 73) rfl ?_
        refine Jvm.OwnW.ialA O25 du0_73 V_au (i := 3) rfl (by decide) (v := (.int (((100 : Int32) * su) + ((100 : Int32) * t2)))) rfl (q := 74) rfl ?_
        refine Jvm.OwnW.iload O25 du0_74 rfl (q := 76) rfl ?_
        by_cases hc76 : (fn_m (fn_m (fn_m (0 : Int32) ((100 : Int32) * su)) (((100 : Int32) * su) + ((100 : Int32) * t0))) ((((100 : Int32) * su) + ((100 : Int32) * t0)) + ((100 : Int32) * t1))) < (((100 : Int32) * su) + ((100 : Int32) * t2))
        · refine Jvm.OwnW.icmpNo O25 du0_76 (tlt hc76).2.2.2 (q := 79) rfl ?_
          refine Jvm.OwnW.aload O25 du0_79 rfl rfl (q := 81) rfl ?_
          refine Jvm.OwnW.iload O25 du0_81 rfl (q := 83) rfl ?_
          refine Jvm.OwnW.ialA O25 du0_83 V_au (i := 3) rfl (by decide) (v := (.int (((100 : Int32) * su) + ((100 : Int32) * t2)))) rfl (q := 84) rfl ?_
          refine Jvm.OwnW.istore O25 du0_84 (L' := #[.val (.ref a1), .val (.int (0 : Int32)), .val (.int su), .val (.ref av), .val (.ref au), .val (.int (((100 : Int32) * su) + ((100 : Int32) * t2))), .val (.int (3 : Int32))]) rfl (q := 86) rfl ?_
          exact J86 _ O25 _ (if_pos hc76) 
        · refine Jvm.OwnW.icmpYes O25 du0_76 (flt hc76).2.2.2 (by decide) (q := 86) rfl ?_
          exact J86 _ O25 _ (if_neg hc76) 
      refine Jvm.OwnW.aload O18 du0_69 rfl rfl (q := 71) rfl ?_
      refine Jvm.OwnW.iload O18 du0_71 rfl (q := 73) rfl ?_
      refine Jvm.OwnW.ialA O18 du0_73 V_au (i := 2) rfl (by decide) (v := (.int ((((100 : Int32) * su) + ((100 : Int32) * t0)) + ((100 : Int32) * t1)))) rfl (q := 74) rfl ?_
      refine Jvm.OwnW.iload O18 du0_74 rfl (q := 76) rfl ?_
      by_cases hc76 : (fn_m (fn_m (0 : Int32) ((100 : Int32) * su)) (((100 : Int32) * su) + ((100 : Int32) * t0))) < ((((100 : Int32) * su) + ((100 : Int32) * t0)) + ((100 : Int32) * t1))
      · refine Jvm.OwnW.icmpNo O18 du0_76 (tlt hc76).2.2.2 (q := 79) rfl ?_
        refine Jvm.OwnW.aload O18 du0_79 rfl rfl (q := 81) rfl ?_
        refine Jvm.OwnW.iload O18 du0_81 rfl (q := 83) rfl ?_
        refine Jvm.OwnW.ialA O18 du0_83 V_au (i := 2) rfl (by decide) (v := (.int ((((100 : Int32) * su) + ((100 : Int32) * t0)) + ((100 : Int32) * t1)))) rfl (q := 84) rfl ?_
        refine Jvm.OwnW.istore O18 du0_84 (L' := #[.val (.ref a1), .val (.int (0 : Int32)), .val (.int su), .val (.ref av), .val (.ref au), .val (.int ((((100 : Int32) * su) + ((100 : Int32) * t0)) + ((100 : Int32) * t1))), .val (.int (2 : Int32))]) rfl (q := 86) rfl ?_
        exact J86 _ O18 _ (if_pos hc76) 
      · refine Jvm.OwnW.icmpYes O18 du0_76 (flt hc76).2.2.2 (by decide) (q := 86) rfl ?_
        exact J86 _ O18 _ (if_neg hc76) 
    refine Jvm.OwnW.aload O11 du0_69 rfl rfl (q := 71) rfl ?_
    refine Jvm.OwnW.iload O11 du0_71 rfl (q := 73) rfl ?_
    refine Jvm.OwnW.ialA O11 du0_73 V_au (i := 1) rfl (by decide) (v := (.int (((100 : Int32) * su) + ((100 : Int32) * t0)))) rfl (q := 74) rfl ?_
    refine Jvm.OwnW.iload O11 du0_74 rfl (q := 76) rfl ?_
    by_cases hc76 : (fn_m (0 : Int32) ((100 : Int32) * su)) < (((100 : Int32) * su) + ((100 : Int32) * t0))
    · refine Jvm.OwnW.icmpNo O11 du0_76 (tlt hc76).2.2.2 (q := 79) rfl ?_
      refine Jvm.OwnW.aload O11 du0_79 rfl rfl (q := 81) rfl ?_
      refine Jvm.OwnW.iload O11 du0_81 rfl (q := 83) rfl ?_
      refine Jvm.OwnW.ialA O11 du0_83 V_au (i := 1) rfl (by decide) (v := (.int (((100 : Int32) * su) + ((100 : Int32) * t0)))) rfl (q := 84) rfl ?_
      refine Jvm.OwnW.istore O11 du0_84 (L' := #[.val (.ref a1), .val (.int (0 : Int32)), .val (.int su), .val (.ref av), .val (.ref au), .val (.int (((100 : Int32) * su) + ((100 : Int32) * t0))), .val (.int (1 : Int32))]) rfl (q := 86) rfl ?_
      exact J86 _ O11 _ (if_pos hc76) 
    · refine Jvm.OwnW.icmpYes O11 du0_76 (flt hc76).2.2.2 (by decide) (q := 86) rfl ?_
      exact J86 _ O11 _ (if_neg hc76) 
  refine Jvm.OwnW.aload O4 du0_69 rfl rfl (q := 71) rfl ?_
  refine Jvm.OwnW.iload O4 du0_71 rfl (q := 73) rfl ?_
  refine Jvm.OwnW.ialA O4 du0_73 V_au (i := 0) rfl (by decide) (v := (.int ((100 : Int32) * su))) rfl (q := 74) rfl ?_
  refine Jvm.OwnW.iload O4 du0_74 rfl (q := 76) rfl ?_
  by_cases hc76 : (0 : Int32) < ((100 : Int32) * su)
  · refine Jvm.OwnW.icmpNo O4 du0_76 (tlt hc76).2.2.2 (q := 79) rfl ?_
    refine Jvm.OwnW.aload O4 du0_79 rfl rfl (q := 81) rfl ?_
    refine Jvm.OwnW.iload O4 du0_81 rfl (q := 83) rfl ?_
    refine Jvm.OwnW.ialA O4 du0_83 V_au (i := 0) rfl (by decide) (v := (.int ((100 : Int32) * su))) rfl (q := 84) rfl ?_
    refine Jvm.OwnW.istore O4 du0_84 (L' := #[.val (.ref a1), .val (.int (0 : Int32)), .val (.int su), .val (.ref av), .val (.ref au), .val (.int ((100 : Int32) * su)), .val (.int (0 : Int32))]) rfl (q := 86) rfl ?_
    exact J86 _ O4 _ (if_pos hc76) 
  · refine Jvm.OwnW.icmpYes O4 du0_76 (flt hc76).2.2.2 (by decide) (q := 86) rfl ?_
    exact J86 _ O4 _ (if_neg hc76) 
theorem du1_0 : decode prog_40_method_2_code 0 = .ok (.iconst 0, 1) := by decide +kernel
theorem du1_1 : decode prog_40_method_2_code 1 = .ok (.istore 5, 2) := by decide +kernel
theorem du1_3 : decode prog_40_method_2_code 3 = .ok (.aload_n 0, 1) := by decide +kernel
theorem du1_4 : decode prog_40_method_2_code 4 = .ok (.getfield 13, 3) := by decide +kernel
theorem du1_7 : decode prog_40_method_2_code 7 = .ok (.iload_n 1, 1) := by decide +kernel
theorem du1_8 : decode prog_40_method_2_code 8 = .ok (.iaload, 1) := by decide +kernel
theorem du1_9 : decode prog_40_method_2_code 9 = .ok (.istore 6, 2) := by decide +kernel
theorem du1_11 : decode prog_40_method_2_code 11 = .ok (.iload 6, 2) := by decide +kernel
theorem du1_13 : decode prog_40_method_2_code 13 = .ok (.aload_n 0, 1) := by decide +kernel
theorem du1_14 : decode prog_40_method_2_code 14 = .ok (.getfield 13, 3) := by decide +kernel
theorem du1_17 : decode prog_40_method_2_code 17 = .ok (.iload_n 1, 1) := by decide +kernel
theorem du1_18 : decode prog_40_method_2_code 18 = .ok (.iconst 1, 1) := by decide +kernel
theorem du1_19 : decode prog_40_method_2_code 19 = .ok (.iadd, 1) := by decide +kernel
theorem du1_20 : decode prog_40_method_2_code 20 = .ok (.iaload, 1) := by decide +kernel
theorem du1_21 : decode prog_40_method_2_code 21 = .ok (.if_icmp .ge 71, 3) := by decide +kernel
theorem du1_24 : decode prog_40_method_2_code 24 = .ok (.aload 4, 2) := by decide +kernel
theorem du1_26 : decode prog_40_method_2_code 26 = .ok (.iload 6, 2) := by decide +kernel
theorem du1_28 : decode prog_40_method_2_code 28 = .ok (.aload_n 0, 1) := by decide +kernel
theorem du1_29 : decode prog_40_method_2_code 29 = .ok (.getfield 16, 3) := by decide +kernel
theorem du1_32 : decode prog_40_method_2_code 32 = .ok (.iload 6, 2) := by decide +kernel
theorem du1_34 : decode prog_40_method_2_code 34 = .ok (.iaload, 1) := by decide +kernel
theorem du1_35 : decode prog_40_method_2_code 35 = .ok (.ifCond .ge 10, 3) := by decide +kernel
theorem du1_38 : decode prog_40_method_2_code 38 = .ok (.bipush 100, 2) := by decide +kernel
theorem du1_40 : decode prog_40_method_2_code 40 = .ok (.iload_n 2, 1) := by decide +kernel
theorem du1_41 : decode prog_40_method_2_code 41 = .ok (.imul, 1) := by decide +kernel
theorem du1_42 : decode prog_40_method_2_code 42 = .ok (.goto 26, 3) := by decide +kernel
theorem du1_45 : decode prog_40_method_2_code 45 = .ok (.aload 4, 2) := by decide +kernel
theorem du1_47 : decode prog_40_method_2_code 47 = .ok (.aload_n 0, 1) := by decide +kernel
theorem du1_48 : decode prog_40_method_2_code 48 = .ok (.getfield 16, 3) := by decide +kernel
theorem du1_51 : decode prog_40_method_2_code 51 = .ok (.iload 6, 2) := by decide +kernel
theorem du1_53 : decode prog_40_method_2_code 53 = .ok (.iaload, 1) := by decide +kernel
theorem du1_54 : decode prog_40_method_2_code 54 = .ok (.iaload, 1) := by decide +kernel
theorem du1_55 : decode prog_40_method_2_code 55 = .ok (.bipush 100, 2) := by decide +kernel
theorem du1_57 : decode prog_40_method_2_code 57 = .ok (.aload_n 3, 1) := by decide +kernel
theorem du1_58 : decode prog_40_method_2_code 58 = .ok (.aload_n 0, 1) := by decide +kernel
theorem du1_59 : decode prog_40_method_2_code 59 = .ok (.getfield 19, 3) := by decide +kernel
theorem du1_62 : decode prog_40_method_2_code 62 = .ok (.iload 6, 2) := by decide +kernel
theorem du1_64 : decode prog_40_method_2_code 64 = .ok (.iaload, 1) := by decide +kernel
theorem du1_65 : decode prog_40_method_2_code 65 = .ok (.iaload, 1) := by decide +kernel
theorem du1_66 : decode prog_40_method_2_code 66 = .ok (.imul, 1) := by decide +kernel
theorem du1_67 : decode prog_40_method_2_code 67 = .ok (.iadd, 1) := by decide +kernel
theorem du1_68 : decode prog_40_method_2_code 68 = .ok (.iastore, 1) := by decide +kernel
theorem du1_69 : decode prog_40_method_2_code 69 = .ok (.aload 4, 2) := by decide +kernel
theorem du1_71 : decode prog_40_method_2_code 71 = .ok (.iload 6, 2) := by decide +kernel
theorem du1_73 : decode prog_40_method_2_code 73 = .ok (.iaload, 1) := by decide +kernel
theorem du1_74 : decode prog_40_method_2_code 74 = .ok (.iload 5, 2) := by decide +kernel
theorem du1_76 : decode prog_40_method_2_code 76 = .ok (.if_icmp .le 10, 3) := by decide +kernel
theorem du1_79 : decode prog_40_method_2_code 79 = .ok (.aload 4, 2) := by decide +kernel
theorem du1_81 : decode prog_40_method_2_code 81 = .ok (.iload 6, 2) := by decide +kernel
theorem du1_83 : decode prog_40_method_2_code 83 = .ok (.iaload, 1) := by decide +kernel
theorem du1_84 : decode prog_40_method_2_code 84 = .ok (.istore 5, 2) := by decide +kernel
theorem du1_86 : decode prog_40_method_2_code 86 = .ok (.iinc 6 1, 3) := by decide +kernel
theorem du1_89 : decode prog_40_method_2_code 89 = .ok (.goto (-78), 3) := by decide +kernel
theorem du1_92 : decode prog_40_method_2_code 92 = .ok (.iload 5, 2) := by decide +kernel
theorem du1_94 : decode prog_40_method_2_code 94 = .ok (.ireturn, 1) := by decide +kernel
theorem ef_u1 (a1 : Addr) (su : Int32) (av : Addr) (au : Addr) (ast ax ad : Addr) (t0 t1 t2 pre : Int32) (m : MethodId) : entryFrame m #[(.ref a1), (.int (1 : Int32)), (.int su), (.ref av), (.ref au)] 7 = mkF m 0 #[.val (.ref a1), .val (.int (1 : Int32)), .val (.int su), .val (.ref av), .val (.ref au), .unset, .unset] [] := by first | (simp [entryFrame, mkF, argsToLocals, Value.category, maxLocals]; done) | rfl
theorem pn_u1 : plainFor (⟨"com/example/bidwright/bidwright/game/ClientOptions$RouteList", "putUtilities", "(II[I[I)I"⟩ : MethodName) = true := by first | exact plainFor_of_name (by first | (simp [plainName, overriddenIn]; done) | decide +kernel) | decide +kernel
set_option maxRecDepth 65536 in
set_option maxHeartbeats 40000000 in
theorem rm_u1 (l : Launch) (Z : State) (a0 : Array Value) (hw : ∀ d ∈ tables_1, d.before a0 Z = true) (a1 : Addr) (su : Int32) (av : Addr) (au : Addr) (ast ax ad : Addr) (t0 t1 t2 pre : Int32) (h0 : Heap) (E_a1 : Exa Z h0 a1 "com/example/bidwright/bidwright/game/ClientOptions$RouteList") (F_stayStarts_a1 : Fld Z h0 a1 "com/example/bidwright/bidwright/game/ClientOptions$RouteList" "stayStarts" "[I" (.ref ast)) (F_extended_a1 : Fld Z h0 a1 "com/example/bidwright/bidwright/game/ClientOptions$RouteList" "extended" "[I" (.ref ax)) (F_added_a1 : Fld Z h0 a1 "com/example/bidwright/bidwright/game/ClientOptions$RouteList" "added" "[I" (.ref ad)) (V_ast : Ar Z h0 ast .int 4 (lf [(.int (0 : Int32)), (.int (4 : Int32)), (.int (6 : Int32)), (.int (6 : Int32))])) (V_ax : Ar Z h0 ax .int 7 (lf [(.int (-1 : Int32)), (.int (0 : Int32)), (.int (1 : Int32)), (.int (0 : Int32)), (.int (-1 : Int32)), (.int (4 : Int32)), (.int (-1 : Int32))])) (V_ad : Ar Z h0 ad .int 7 (lf [(.int (-1 : Int32)), (.int (0 : Int32)), (.int (1 : Int32)), (.int (2 : Int32)), (.int (-1 : Int32)), (.int (1 : Int32)), (.int (-1 : Int32))])) (V_av : Ar Z h0 av .int 3 (lf [(.int t0), (.int t1), (.int t2)])) (V_au : Ar Z h0 au .int 7 (lf [(.int pre), (.int pre), (.int pre), (.int pre), (.int pre), (.int pre), (.int pre)])) (ne_a1 : a1 ≠ au) (ne_ast : ast ≠ au) (ne_ax : ax ≠ au) (ne_ad : ad ≠ au) (ne_av : av ≠ au) :
    Met l Z (⟨"com/example/bidwright/bidwright/game/ClientOptions$RouteList", "putUtilities", "(II[I[I)I"⟩ : MethodName) prog_40_method_2_code 7 (some .int) [] ({ frames := 0, cells := 0, slots := 0, locals := 0 } : Room) #[(.ref a1), (.int (1 : Int32)), (.int su), (.ref av), (.ref au)] [au] h0 (fun v h => v = some (.int (fn_m (fn_m (0 : Int32) ((100 : Int32) * su)) (((100 : Int32) * su) + ((100 : Int32) * t1)))) ∧ Ar Z h au .int 7 (lf [(.int pre), (.int pre), (.int pre), (.int pre), (.int ((100 : Int32) * su)), (.int (((100 : Int32) * su) + ((100 : Int32) * t1))), (.int pre)])) := by
  refine Met.mk pn_u1 (ef_u1 a1 su av au ast ax ad t0 t1 t2 pre) ?_
  intro C T hs0 O
  show Go C [au] (fun v h => v = some (.int (fn_m (fn_m (0 : Int32) ((100 : Int32) * su)) (((100 : Int32) * su) + ((100 : Int32) * t1)))) ∧ Ar Z h au .int 7 (lf [(.int pre), (.int pre), (.int pre), (.int pre), (.int ((100 : Int32) * su)), (.int (((100 : Int32) * su) + ((100 : Int32) * t1))), (.int pre)])) 0 0 (T.setTop (mkF C.m 0 #[.val (.ref a1), .val (.int (1 : Int32)), .val (.int su), .val (.ref av), .val (.ref au), .unset, .unset] []))
  refine Jvm.OwnW.iconst O du1_0 (r := (0 : Int32)) rfl (q := 1) rfl ?_
  refine Jvm.OwnW.istore O du1_1 (L' := #[.val (.ref a1), .val (.int (1 : Int32)), .val (.int su), .val (.ref av), .val (.ref au), .val (.int (0 : Int32)), .unset]) rfl (q := 3) rfl ?_
  refine Jvm.OwnW.aloadN O du1_3 rfl rfl (q := 4) rfl ?_
  refine Jvm.OwnW.getF O du1_4 (host := "") (Or.inl (hw _ (List.mem_of_getElem? (i := 18) rfl))) Via.refl F_stayStarts_a1 (q := 7) rfl ?_
  intro T1 O1
  refine Jvm.OwnW.iloadN O1 du1_7 rfl (q := 8) rfl ?_
  refine Jvm.OwnW.ialA O1 du1_8 V_ast (i := 1) rfl (by decide) (v := (.int (4 : Int32))) rfl (q := 9) rfl ?_
  refine Jvm.OwnW.istore O1 du1_9 (L' := #[.val (.ref a1), .val (.int (1 : Int32)), .val (.int su), .val (.ref av), .val (.ref au), .val (.int (0 : Int32)), .val (.int (4 : Int32))]) rfl (q := 11) rfl ?_
  refine Jvm.OwnW.iload O1 du1_11 rfl (q := 13) rfl ?_
  refine Jvm.OwnW.aloadN O1 du1_13 rfl rfl (q := 14) rfl ?_
  refine Jvm.OwnW.getF O1 du1_14 (host := "") (Or.inl (hw _ (List.mem_of_getElem? (i := 18) rfl))) Via.refl F_stayStarts_a1 (q := 17) rfl ?_
  intro T2 O2
  refine Jvm.OwnW.iloadN O2 du1_17 rfl (q := 18) rfl ?_
  refine Jvm.OwnW.iconst O2 du1_18 (r := (1 : Int32)) rfl (q := 19) rfl ?_
  refine Jvm.OwnW.iadd O2 du1_19 (r := (2 : Int32)) (by decide) (q := 20) rfl ?_
  refine Jvm.OwnW.ialA O2 du1_20 V_ast (i := 2) rfl (by decide) (v := (.int (6 : Int32))) rfl (q := 21) rfl ?_
  refine Jvm.OwnW.icmpNo O2 du1_21 (tlt (show (4 : Int32) < (6 : Int32) from (by decide))).2.1 (q := 24) rfl ?_
  refine Jvm.OwnW.aload O2 du1_24 rfl rfl (q := 26) rfl ?_
  refine Jvm.OwnW.iload O2 du1_26 rfl (q := 28) rfl ?_
  refine Jvm.OwnW.aloadN O2 du1_28 rfl rfl (q := 29) rfl ?_
  refine Jvm.OwnW.getF O2 du1_29 (host := "") (Or.inl (hw _ (List.mem_of_getElem? (i := 20) rfl))) Via.refl F_extended_a1 (q := 32) rfl ?_
  intro T3 O3
  refine Jvm.OwnW.iload O3 du1_32 rfl (q := 34) rfl ?_
  refine Jvm.OwnW.ialA O3 du1_34 V_ax (i := 4) rfl (by decide) (v := (.int (-1 : Int32))) rfl (q := 35) rfl ?_
  refine Jvm.OwnW.ifNo O3 du1_35 (tlt0 (show (-1 : Int32) < (0 : Int32) from (by decide))).2 (q := 38) rfl ?_
  refine Jvm.OwnW.bipush O3 du1_38 (r := (100 : Int32)) rfl (q := 40) rfl ?_
  refine Jvm.OwnW.iloadN O3 du1_40 rfl (q := 41) rfl ?_
  refine Jvm.OwnW.imul O3 du1_41 rfl (q := 42) rfl ?_
  refine Jvm.OwnW.goto O3 du1_42 (by decide) (q := 68) rfl ?_
  refine Jvm.OwnW.iasA O3 du1_68 V_au (i := 4) rfl (by decide) (Or.inl (List.mem_cons_self ..)) (q := 69) rfl ?_
  intro T4 h4 O4 W4
  have V_au : Ar Z h4 au .int 7 (lf [(.int pre), (.int pre), (.int pre), (.int pre), (.int ((100 : Int32) * su)), (.int pre), (.int pre)]) := V_au.setL W4 (by decide) (Nat.le_of_ble_eq_true rfl)
  have E_a1 := E_a1.wr W4
  have F_stayStarts_a1 := F_stayStarts_a1.other W4 (Or.inl ne_a1)
  have F_extended_a1 := F_extended_a1.other W4 (Or.inl ne_a1)
  have F_added_a1 := F_added_a1.other W4 (Or.inl ne_a1)
  have V_ast := V_ast.other W4 ne_ast
  have V_ax := V_ax.other W4 ne_ax
  have V_ad := V_ad.other W4 ne_ad
  have V_av := V_av.other W4 ne_av
  have J86 : ∀ (T6 : State), On l Z [au] ({ frames := 0, cells := 0, slots := 0, locals := 0 } : Room) "com/example/bidwright/bidwright/game/ClientOptions$RouteList" "putUtilities" prog_40_method_2_code 7 (some .int) C T6 h4 0 0 → ∀ (b5 : Int32), ∀ (hb5 : (fn_m (0 : Int32) ((100 : Int32) * su)) = b5), Go C [au] (fun v h => v = some (.int (fn_m (fn_m (0 : Int32) ((100 : Int32) * su)) (((100 : Int32) * su) + ((100 : Int32) * t1)))) ∧ Ar Z h au .int 7 (lf [(.int pre), (.int pre), (.int pre), (.int pre), (.int ((100 : Int32) * su)), (.int (((100 : Int32) * su) + ((100 : Int32) * t1))), (.int pre)])) 0 0 (T6.setTop (mkF C.m 86 #[.val (.ref a1), .val (.int (1 : Int32)), .val (.int su), .val (.ref av), .val (.ref au), .val (.int b5), .val (.int (4 : Int32))] [])) := by
    intro T6 O6 b5 hb5 
    subst hb5
    refine Jvm.OwnW.iinc O6 du1_86 rfl (L' := #[.val (.ref a1), .val (.int (1 : Int32)), .val (.int su), .val (.ref av), .val (.ref au), .val (.int (fn_m (0 : Int32) ((100 : Int32) * su))), .val (.int (5 : Int32))]) rfl (q := 89) rfl ?_
    refine Jvm.OwnW.goto O6 du1_89 (by decide) (q := 11) rfl ?_
    refine Jvm.OwnW.iload O6 du1_11 rfl (q := 13) rfl ?_
    refine Jvm.OwnW.aloadN O6 du1_13 rfl rfl (q := 14) rfl ?_
    refine Jvm.OwnW.getF O6 du1_14 (host := "") (Or.inl (hw _ (List.mem_of_getElem? (i := 18) rfl))) Via.refl F_stayStarts_a1 (q := 17) rfl ?_
    intro T7 O7
    refine Jvm.OwnW.iloadN O7 du1_17 rfl (q := 18) rfl ?_
    refine Jvm.OwnW.iconst O7 du1_18 (r := (1 : Int32)) rfl (q := 19) rfl ?_
    refine Jvm.OwnW.iadd O7 du1_19 (r := (2 : Int32)) (by decide) (q := 20) rfl ?_
    refine Jvm.OwnW.ialA O7 du1_20 V_ast (i := 2) rfl (by decide) (v := (.int (6 : Int32))) rfl (q := 21) rfl ?_
    refine Jvm.OwnW.icmpNo O7 du1_21 (tlt (show (5 : Int32) < (6 : Int32) from (by decide))).2.1 (q := 24) rfl ?_
    refine Jvm.OwnW.aload O7 du1_24 rfl rfl (q := 26) rfl ?_
    refine Jvm.OwnW.iload O7 du1_26 rfl (q := 28) rfl ?_
    refine Jvm.OwnW.aloadN O7 du1_28 rfl rfl (q := 29) rfl ?_
    refine Jvm.OwnW.getF O7 du1_29 (host := "") (Or.inl (hw _ (List.mem_of_getElem? (i := 20) rfl))) Via.refl F_extended_a1 (q := 32) rfl ?_
    intro T8 O8
    refine Jvm.OwnW.iload O8 du1_32 rfl (q := 34) rfl ?_
    refine Jvm.OwnW.ialA O8 du1_34 V_ax (i := 5) rfl (by decide) (v := (.int (4 : Int32))) rfl (q := 35) rfl ?_
    refine Jvm.OwnW.ifYes O8 du1_35 (flt0 (show ¬ ((4 : Int32) < (0 : Int32)) from (by decide))).2 (by decide) (q := 45) rfl ?_
    refine Jvm.OwnW.aload O8 du1_45 rfl rfl (q := 47) rfl ?_
    refine Jvm.OwnW.aloadN O8 du1_47 rfl rfl (q := 48) rfl ?_
    refine Jvm.OwnW.getF O8 du1_48 (host := "") (Or.inl (hw _ (List.mem_of_getElem? (i := 20) rfl))) Via.refl F_extended_a1 (q := 51) rfl ?_
    intro T9 O9
    refine Jvm.OwnW.iload O9 du1_51 rfl (q := 53) rfl ?_
    refine Jvm.OwnW.ialA O9 du1_53 V_ax (i := 5) rfl (by decide) (v := (.int (4 : Int32))) rfl (q := 54) rfl ?_
    refine Jvm.OwnW.ialA O9 du1_54 V_au (i := 4) rfl (by decide) (v := (.int ((100 : Int32) * su))) rfl (q := 55) rfl ?_
    refine Jvm.OwnW.bipush O9 du1_55 (r := (100 : Int32)) rfl (q := 57) rfl ?_
    refine Jvm.OwnW.aloadN O9 du1_57 rfl rfl (q := 58) rfl ?_
    refine Jvm.OwnW.aloadN O9 du1_58 rfl rfl (q := 59) rfl ?_
    refine Jvm.OwnW.getF O9 du1_59 (host := "") (Or.inl (hw _ (List.mem_of_getElem? (i := 22) rfl))) Via.refl F_added_a1 (q := 62) rfl ?_
    intro T10 O10
    refine Jvm.OwnW.iload O10 du1_62 rfl (q := 64) rfl ?_
    refine Jvm.OwnW.ialA O10 du1_64 V_ad (i := 5) rfl (by decide) (v := (.int (1 : Int32))) rfl (q := 65) rfl ?_
    refine Jvm.OwnW.ialA O10 du1_65 V_av (i := 1) rfl (by decide) (v := (.int t1)) rfl (q := 66) rfl ?_
    refine Jvm.OwnW.imul O10 du1_66 rfl (q := 67) rfl ?_
    refine Jvm.OwnW.iadd O10 du1_67 rfl (q := 68) rfl ?_
    refine Jvm.OwnW.iasA O10 du1_68 V_au (i := 5) rfl (by decide) (Or.inl (List.mem_cons_self ..)) (q := 69) rfl ?_
    intro T11 h11 O11 W11
    have V_au : Ar Z h11 au .int 7 (lf [(.int pre), (.int pre), (.int pre), (.int pre), (.int ((100 : Int32) * su)), (.int (((100 : Int32) * su) + ((100 : Int32) * t1))), (.int pre)]) := V_au.setL W11 (by decide) (Nat.le_of_ble_eq_true rfl)
    have E_a1 := E_a1.wr W11
    have F_stayStarts_a1 := F_stayStarts_a1.other W11 (Or.inl ne_a1)
    have F_extended_a1 := F_extended_a1.other W11 (Or.inl ne_a1)
    have F_added_a1 := F_added_a1.other W11 (Or.inl ne_a1)
    have V_ast := V_ast.other W11 ne_ast
    have V_ax := V_ax.other W11 ne_ax
    have V_ad := V_ad.other W11 ne_ad
    have V_av := V_av.other W11 ne_av
    have J86 : ∀ (T13 : State), On l Z [au] ({ frames := 0, cells := 0, slots := 0, locals := 0 } : Room) "com/example/bidwright/bidwright/game/ClientOptions$RouteList" "putUtilities" prog_40_method_2_code 7 (some .int) C T13 h11 0 0 → ∀ (b12 : Int32), ∀ (hb12 : (fn_m (fn_m (0 : Int32) ((100 : Int32) * su)) (((100 : Int32) * su) + ((100 : Int32) * t1))) = b12), Go C [au] (fun v h => v = some (.int (fn_m (fn_m (0 : Int32) ((100 : Int32) * su)) (((100 : Int32) * su) + ((100 : Int32) * t1)))) ∧ Ar Z h au .int 7 (lf [(.int pre), (.int pre), (.int pre), (.int pre), (.int ((100 : Int32) * su)), (.int (((100 : Int32) * su) + ((100 : Int32) * t1))), (.int pre)])) 0 0 (T13.setTop (mkF C.m 86 #[.val (.ref a1), .val (.int (1 : Int32)), .val (.int su), .val (.ref av), .val (.ref au), .val (.int b12), .val (.int (5 : Int32))] [])) := by
      intro T13 O13 b12 hb12 
      subst hb12
      refine Jvm.OwnW.iinc O13 du1_86 rfl (L' := #[.val (.ref a1), .val (.int (1 : Int32)), .val (.int su), .val (.ref av), .val (.ref au), .val (.int (fn_m (fn_m (0 : Int32) ((100 : Int32) * su)) (((100 : Int32) * su) + ((100 : Int32) * t1)))), .val (.int (6 : Int32))]) rfl (q := 89) rfl ?_
      refine Jvm.OwnW.goto O13 du1_89 (by decide) (q := 11) rfl ?_
      refine Jvm.OwnW.iload O13 du1_11 rfl (q := 13) rfl ?_
      refine Jvm.OwnW.aloadN O13 du1_13 rfl rfl (q := 14) rfl ?_
      refine Jvm.OwnW.getF O13 du1_14 (host := "") (Or.inl (hw _ (List.mem_of_getElem? (i := 18) rfl))) Via.refl F_stayStarts_a1 (q := 17) rfl ?_
      intro T14 O14
      refine Jvm.OwnW.iloadN O14 du1_17 rfl (q := 18) rfl ?_
      refine Jvm.OwnW.iconst O14 du1_18 (r := (1 : Int32)) rfl (q := 19) rfl ?_
      refine Jvm.OwnW.iadd O14 du1_19 (r := (2 : Int32)) (by decide) (q := 20) rfl ?_
      refine Jvm.OwnW.ialA O14 du1_20 V_ast (i := 2) rfl (by decide) (v := (.int (6 : Int32))) rfl (q := 21) rfl ?_
      refine Jvm.OwnW.icmpYes O14 du1_21 (flt (show ¬ ((6 : Int32) < (6 : Int32)) from (by decide))).2.1 (by decide) (q := 92) rfl ?_
      refine Jvm.OwnW.iload O14 du1_92 rfl (q := 94) rfl ?_
      exact Jvm.OwnW.retI O14 du1_94 rfl (by decide) (by decide) ⟨rfl, V_au⟩
    refine Jvm.OwnW.aload O11 du1_69 rfl rfl (q := 71) rfl ?_
    refine Jvm.OwnW.iload O11 du1_71 rfl (q := 73) rfl ?_
    refine Jvm.OwnW.ialA O11 du1_73 V_au (i := 5) rfl (by decide) (v := (.int (((100 : Int32) * su) + ((100 : Int32) * t1)))) rfl (q := 74) rfl ?_
    refine Jvm.OwnW.iload O11 du1_74 rfl (q := 76) rfl ?_
    by_cases hc76 : (fn_m (0 : Int32) ((100 : Int32) * su)) < (((100 : Int32) * su) + ((100 : Int32) * t1))
    · refine Jvm.OwnW.icmpNo O11 du1_76 (tlt hc76).2.2.2 (q := 79) rfl ?_
      refine Jvm.OwnW.aload O11 du1_79 rfl rfl (q := 81) rfl ?_
      refine Jvm.OwnW.iload O11 du1_81 rfl (q := 83) rfl ?_
      refine Jvm.OwnW.ialA O11 du1_83 V_au (i := 5) rfl (by decide) (v := (.int (((100 : Int32) * su) + ((100 : Int32) * t1)))) rfl (q := 84) rfl ?_
      refine Jvm.OwnW.istore O11 du1_84 (L' := #[.val (.ref a1), .val (.int (1 : Int32)), .val (.int su), .val (.ref av), .val (.ref au), .val (.int (((100 : Int32) * su) + ((100 : Int32) * t1))), .val (.int (5 : Int32))]) rfl (q := 86) rfl ?_
      exact J86 _ O11 _ (if_pos hc76) 
    · refine Jvm.OwnW.icmpYes O11 du1_76 (flt hc76).2.2.2 (by decide) (q := 86) rfl ?_
      exact J86 _ O11 _ (if_neg hc76) 
  refine Jvm.OwnW.aload O4 du1_69 rfl rfl (q := 71) rfl ?_
  refine Jvm.OwnW.iload O4 du1_71 rfl (q := 73) rfl ?_
  refine Jvm.OwnW.ialA O4 du1_73 V_au (i := 4) rfl (by decide) (v := (.int ((100 : Int32) * su))) rfl (q := 74) rfl ?_
  refine Jvm.OwnW.iload O4 du1_74 rfl (q := 76) rfl ?_
  by_cases hc76 : (0 : Int32) < ((100 : Int32) * su)
  · refine Jvm.OwnW.icmpNo O4 du1_76 (tlt hc76).2.2.2 (q := 79) rfl ?_
    refine Jvm.OwnW.aload O4 du1_79 rfl rfl (q := 81) rfl ?_
    refine Jvm.OwnW.iload O4 du1_81 rfl (q := 83) rfl ?_
    refine Jvm.OwnW.ialA O4 du1_83 V_au (i := 4) rfl (by decide) (v := (.int ((100 : Int32) * su))) rfl (q := 84) rfl ?_
    refine Jvm.OwnW.istore O4 du1_84 (L' := #[.val (.ref a1), .val (.int (1 : Int32)), .val (.int su), .val (.ref av), .val (.ref au), .val (.int ((100 : Int32) * su)), .val (.int (4 : Int32))]) rfl (q := 86) rfl ?_
    exact J86 _ O4 _ (if_pos hc76) 
  · refine Jvm.OwnW.icmpYes O4 du1_76 (flt hc76).2.2.2 (by decide) (q := 86) rfl ?_
    exact J86 _ O4 _ (if_neg hc76) 
theorem du2_0 : decode prog_40_method_2_code 0 = .ok (.iconst 0, 1) := by decide +kernel
theorem du2_1 : decode prog_40_method_2_code 1 = .ok (.istore 5, 2) := by decide +kernel
theorem du2_3 : decode prog_40_method_2_code 3 = .ok (.aload_n 0, 1) := by decide +kernel
theorem du2_4 : decode prog_40_method_2_code 4 = .ok (.getfield 13, 3) := by decide +kernel
theorem du2_7 : decode prog_40_method_2_code 7 = .ok (.iload_n 1, 1) := by decide +kernel
theorem du2_8 : decode prog_40_method_2_code 8 = .ok (.iaload, 1) := by decide +kernel
theorem du2_9 : decode prog_40_method_2_code 9 = .ok (.istore 6, 2) := by decide +kernel
theorem du2_11 : decode prog_40_method_2_code 11 = .ok (.iload 6, 2) := by decide +kernel
theorem du2_13 : decode prog_40_method_2_code 13 = .ok (.aload_n 0, 1) := by decide +kernel
theorem du2_14 : decode prog_40_method_2_code 14 = .ok (.getfield 13, 3) := by decide +kernel
theorem du2_17 : decode prog_40_method_2_code 17 = .ok (.iload_n 1, 1) := by decide +kernel
theorem du2_18 : decode prog_40_method_2_code 18 = .ok (.iconst 1, 1) := by decide +kernel
theorem du2_19 : decode prog_40_method_2_code 19 = .ok (.iadd, 1) := by decide +kernel
theorem du2_20 : decode prog_40_method_2_code 20 = .ok (.iaload, 1) := by decide +kernel
theorem du2_21 : decode prog_40_method_2_code 21 = .ok (.if_icmp .ge 71, 3) := by decide +kernel
theorem du2_92 : decode prog_40_method_2_code 92 = .ok (.iload 5, 2) := by decide +kernel
theorem du2_94 : decode prog_40_method_2_code 94 = .ok (.ireturn, 1) := by decide +kernel
theorem ef_u2 (a1 : Addr) (su : Int32) (av : Addr) (au : Addr) (ast ax ad : Addr) (t0 t1 t2 pre : Int32) (m : MethodId) : entryFrame m #[(.ref a1), (.int (2 : Int32)), (.int su), (.ref av), (.ref au)] 7 = mkF m 0 #[.val (.ref a1), .val (.int (2 : Int32)), .val (.int su), .val (.ref av), .val (.ref au), .unset, .unset] [] := by first | (simp [entryFrame, mkF, argsToLocals, Value.category, maxLocals]; done) | rfl
theorem pn_u2 : plainFor (⟨"com/example/bidwright/bidwright/game/ClientOptions$RouteList", "putUtilities", "(II[I[I)I"⟩ : MethodName) = true := by first | exact plainFor_of_name (by first | (simp [plainName, overriddenIn]; done) | decide +kernel) | decide +kernel
set_option maxRecDepth 65536 in
set_option maxHeartbeats 40000000 in
theorem rm_u2 (l : Launch) (Z : State) (a0 : Array Value) (hw : ∀ d ∈ tables_1, d.before a0 Z = true) (a1 : Addr) (su : Int32) (av : Addr) (au : Addr) (ast ax ad : Addr) (t0 t1 t2 pre : Int32) (h0 : Heap) (E_a1 : Exa Z h0 a1 "com/example/bidwright/bidwright/game/ClientOptions$RouteList") (F_stayStarts_a1 : Fld Z h0 a1 "com/example/bidwright/bidwright/game/ClientOptions$RouteList" "stayStarts" "[I" (.ref ast)) (F_extended_a1 : Fld Z h0 a1 "com/example/bidwright/bidwright/game/ClientOptions$RouteList" "extended" "[I" (.ref ax)) (F_added_a1 : Fld Z h0 a1 "com/example/bidwright/bidwright/game/ClientOptions$RouteList" "added" "[I" (.ref ad)) (V_ast : Ar Z h0 ast .int 4 (lf [(.int (0 : Int32)), (.int (4 : Int32)), (.int (6 : Int32)), (.int (6 : Int32))])) (V_ax : Ar Z h0 ax .int 7 (lf [(.int (-1 : Int32)), (.int (0 : Int32)), (.int (1 : Int32)), (.int (0 : Int32)), (.int (-1 : Int32)), (.int (4 : Int32)), (.int (-1 : Int32))])) (V_ad : Ar Z h0 ad .int 7 (lf [(.int (-1 : Int32)), (.int (0 : Int32)), (.int (1 : Int32)), (.int (2 : Int32)), (.int (-1 : Int32)), (.int (1 : Int32)), (.int (-1 : Int32))])) (V_av : Ar Z h0 av .int 3 (lf [(.int t0), (.int t1), (.int t2)])) (V_au : Ar Z h0 au .int 7 (lf [(.int pre), (.int pre), (.int pre), (.int pre), (.int pre), (.int pre), (.int pre)])) (ne_a1 : a1 ≠ au) (ne_ast : ast ≠ au) (ne_ax : ax ≠ au) (ne_ad : ad ≠ au) (ne_av : av ≠ au) :
    Met l Z (⟨"com/example/bidwright/bidwright/game/ClientOptions$RouteList", "putUtilities", "(II[I[I)I"⟩ : MethodName) prog_40_method_2_code 7 (some .int) [] ({ frames := 0, cells := 0, slots := 0, locals := 0 } : Room) #[(.ref a1), (.int (2 : Int32)), (.int su), (.ref av), (.ref au)] [au] h0 (fun v h => v = some (.int (0 : Int32)) ∧ Ar Z h au .int 7 (lf [(.int pre), (.int pre), (.int pre), (.int pre), (.int pre), (.int pre), (.int pre)])) := by
  refine Met.mk pn_u2 (ef_u2 a1 su av au ast ax ad t0 t1 t2 pre) ?_
  intro C T hs0 O
  show Go C [au] (fun v h => v = some (.int (0 : Int32)) ∧ Ar Z h au .int 7 (lf [(.int pre), (.int pre), (.int pre), (.int pre), (.int pre), (.int pre), (.int pre)])) 0 0 (T.setTop (mkF C.m 0 #[.val (.ref a1), .val (.int (2 : Int32)), .val (.int su), .val (.ref av), .val (.ref au), .unset, .unset] []))
  refine Jvm.OwnW.iconst O du2_0 (r := (0 : Int32)) rfl (q := 1) rfl ?_
  refine Jvm.OwnW.istore O du2_1 (L' := #[.val (.ref a1), .val (.int (2 : Int32)), .val (.int su), .val (.ref av), .val (.ref au), .val (.int (0 : Int32)), .unset]) rfl (q := 3) rfl ?_
  refine Jvm.OwnW.aloadN O du2_3 rfl rfl (q := 4) rfl ?_
  refine Jvm.OwnW.getF O du2_4 (host := "") (Or.inl (hw _ (List.mem_of_getElem? (i := 18) rfl))) Via.refl F_stayStarts_a1 (q := 7) rfl ?_
  intro T1 O1
  refine Jvm.OwnW.iloadN O1 du2_7 rfl (q := 8) rfl ?_
  refine Jvm.OwnW.ialA O1 du2_8 V_ast (i := 2) rfl (by decide) (v := (.int (6 : Int32))) rfl (q := 9) rfl ?_
  refine Jvm.OwnW.istore O1 du2_9 (L' := #[.val (.ref a1), .val (.int (2 : Int32)), .val (.int su), .val (.ref av), .val (.ref au), .val (.int (0 : Int32)), .val (.int (6 : Int32))]) rfl (q := 11) rfl ?_
  refine Jvm.OwnW.iload O1 du2_11 rfl (q := 13) rfl ?_
  refine Jvm.OwnW.aloadN O1 du2_13 rfl rfl (q := 14) rfl ?_
  refine Jvm.OwnW.getF O1 du2_14 (host := "") (Or.inl (hw _ (List.mem_of_getElem? (i := 18) rfl))) Via.refl F_stayStarts_a1 (q := 17) rfl ?_
  intro T2 O2
  refine Jvm.OwnW.iloadN O2 du2_17 rfl (q := 18) rfl ?_
  refine Jvm.OwnW.iconst O2 du2_18 (r := (1 : Int32)) rfl (q := 19) rfl ?_
  refine Jvm.OwnW.iadd O2 du2_19 (r := (3 : Int32)) (by decide) (q := 20) rfl ?_
  refine Jvm.OwnW.ialA O2 du2_20 V_ast (i := 3) rfl (by decide) (v := (.int (6 : Int32))) rfl (q := 21) rfl ?_
  refine Jvm.OwnW.icmpYes O2 du2_21 (flt (show ¬ ((6 : Int32) < (6 : Int32)) from (by decide))).2.1 (by decide) (q := 92) rfl ?_
  refine Jvm.OwnW.iload O2 du2_92 rfl (q := 94) rfl ?_
  exact Jvm.OwnW.retI O2 du2_94 rfl (by decide) (by decide) ⟨rfl, V_au⟩
theorem own_3 (s : Int32) : (s &&& 2147483647) % 3 = 0 ∨ (s &&& 2147483647) % 3 = 1 ∨ (s &&& 2147483647) % 3 = 2 := by
  obtain ⟨i, h1, h2⟩ := rem_in s 3 (by decide)
  have h3 : (3 : Int32).toInt = 3 := rfl
  have q : i = 0 ∨ i = 1 ∨ i = 2 := by omega
  rcases q with rfl | rfl | rfl
  · exact Or.inl (eq32 h1)
  · exact Or.inr (Or.inl (eq32 h1))
  · exact Or.inr (Or.inr (eq32 h1))
theorem pd_1 : parseMethodDescriptor "([I[I[I[I)V" = some ⟨[(.array .int), (.array .int), (.array .int), (.array .int)], none⟩ := by decide +kernel
theorem pd_2 : parseMethodDescriptor "(II[I[I)I" = some ⟨[.int, .int, (.array .int), (.array .int)], some .int⟩ := by decide +kernel
theorem pd_3 : parseMethodDescriptor "(II)I" = some ⟨[.int, .int], some .int⟩ := by decide +kernel
theorem ef_0 (p0 : Int32) (p1 : Int32) (p2 : Int32) (p3 : Int32) (p4 : Int32) (p5 : Int32) (m : MethodId) : entryFrame m #[(.int p0), (.int p1), (.int p2), (.int p3), (.int p4), (.int p5)] maxLocals = mkF m 0 #[.val (.int p0), .val (.int p1), .val (.int p2), .val (.int p3), .val (.int p4), .val (.int p5), .unset, .unset, .unset, .unset, .unset, .unset, .unset, .unset, .unset, .unset, .unset, .unset, .unset, .unset, .unset, .unset, .unset, .unset, .unset] [] := by first | (simp [entryFrame, mkF, argsToLocals, Value.category, maxLocals]; done) | rfl
theorem pn_0 : plainFor x = true := by first | exact plainFor_of_name (by first | (simp [plainName, overriddenIn]; done) | decide +kernel) | decide +kernel
set_option maxRecDepth 65536 in
set_option maxHeartbeats 40000000 in
theorem rm_0 (l : Launch) (Z : State) (a0 : Array Value) (hw : ∀ d ∈ tables_1, d.before a0 Z = true) (wds : List Jvm.Cond) (p0 : Int32) (p1 : Int32) (p2 : Int32) (p3 : Int32) (p4 : Int32) (p5 : Int32) (h0 : Heap)  :
    Met l Z x code maxLocals ret wds room_1 #[(.int p0), (.int p1), (.int p2), (.int p3), (.int p4), (.int p5)] [] h0 (fun v h => v = some (.int 1)) := by
  refine Met.mk pn_0 (ef_0 p0 p1 p2 p3 p4 p5) ?_
  intro C T hs0 O
  show Go C [] (fun v h => v = some (.int 1)) 24 192 (T.setTop (mkF C.m 0 #[.val (.int p0), .val (.int p1), .val (.int p2), .val (.int p3), .val (.int p4), .val (.int p5), .unset, .unset, .unset, .unset, .unset, .unset, .unset, .unset, .unset, .unset, .unset, .unset, .unset, .unset, .unset, .unset, .unset, .unset, .unset] []))
  refine Jvm.OwnW.iloadN O at_0 rfl (q := 1) rfl ?_
  refine Jvm.OwnW.ldcI O at_1 (hw _ (List.mem_of_getElem? (i := 0) rfl)) (q := 3) rfl ?_
  refine Jvm.OwnW.iand O at_3 rfl (q := 4) rfl ?_
  refine Jvm.OwnW.iconst O at_4 (r := (3 : Int32)) rfl (q := 5) rfl ?_
  obtain ⟨stay, hstay⟩ : ∃ zz_, ((p0 &&& (2147483647 : Int32)) % (3 : Int32)) = zz_ := ⟨_, rfl⟩
  refine Jvm.OwnW.irem O at_5 (by decide) hstay (q := 6) rfl ?_
  have h3 := own_3 p0
  rw [hstay] at h3
  clear hstay
  rcases h3 with rfl | rfl | rfl
  · skip
    refine Jvm.OwnW.istore O at_6 (L' := #[.val (.int p0), .val (.int p1), .val (.int p2), .val (.int p3), .val (.int p4), .val (.int p5), .val (.int (0 : Int32)), .unset, .unset, .unset, .unset, .unset, .unset, .unset, .unset, .unset, .unset, .unset, .unset, .unset, .unset, .unset, .unset, .unset, .unset]) rfl (q := 8) rfl ?_
    refine Jvm.OwnW.bipush O at_8 (r := (7 : Int32)) rfl (q := 10) rfl ?_
    refine Jvm.OwnW.newA' O at_10 (ty := .int) rfl (hw _ (List.mem_of_getElem? (i := 1) rfl)) (N := 7) rfl (cap := 7) (by decide) (by decide) (c2 := 1) (s2 := 7) rfl rfl (by decide) (by decide) (q := 12) rfl ?_
    intro a1 T1 h1 g1 N1 O1 X1 V_a1
    have V_a1 : Ar Z h1 a1 .int 7 (lf [(.int (0 : Int32)), (.int (0 : Int32)), (.int (0 : Int32)), (.int (0 : Int32)), (.int (0 : Int32)), (.int (0 : Int32)), (.int (0 : Int32))]) := V_a1.congr (lf_rep 7 _)
    refine Jvm.OwnW.dup O1 at_12 rfl (q := 13) rfl ?_
    refine Jvm.OwnW.iconst O1 at_13 (r := (0 : Int32)) rfl (q := 14) rfl ?_
    refine Jvm.OwnW.iconst O1 at_14 (r := (0 : Int32)) rfl (q := 15) rfl ?_
    refine Jvm.OwnW.iasA O1 at_15 V_a1 (i := 0) rfl (by decide) (Or.inr N1) (q := 16) rfl ?_
    intro T2 h2 O2 W2
    have V_a1 : Ar Z h2 a1 .int 7 (lf [(.int (0 : Int32)), (.int (0 : Int32)), (.int (0 : Int32)), (.int (0 : Int32)), (.int (0 : Int32)), (.int (0 : Int32)), (.int (0 : Int32))]) := V_a1.setL W2 (by decide) (Nat.le_of_ble_eq_true rfl)
    refine Jvm.OwnW.dup O2 at_16 rfl (q := 17) rfl ?_
    refine Jvm.OwnW.iconst O2 at_17 (r := (1 : Int32)) rfl (q := 18) rfl ?_
    refine Jvm.OwnW.iconst O2 at_18 (r := (1 : Int32)) rfl (q := 19) rfl ?_
    refine Jvm.OwnW.iasA O2 at_19 V_a1 (i := 1) rfl (by decide) (Or.inr N1) (q := 20) rfl ?_
    intro T3 h3 O3 W3
    have V_a1 : Ar Z h3 a1 .int 7 (lf [(.int (0 : Int32)), (.int (1 : Int32)), (.int (0 : Int32)), (.int (0 : Int32)), (.int (0 : Int32)), (.int (0 : Int32)), (.int (0 : Int32))]) := V_a1.setL W3 (by decide) (Nat.le_of_ble_eq_true rfl)
    refine Jvm.OwnW.dup O3 at_20 rfl (q := 21) rfl ?_
    refine Jvm.OwnW.iconst O3 at_21 (r := (2 : Int32)) rfl (q := 22) rfl ?_
    refine Jvm.OwnW.iconst O3 at_22 (r := (2 : Int32)) rfl (q := 23) rfl ?_
    refine Jvm.OwnW.iasA O3 at_23 V_a1 (i := 2) rfl (by decide) (Or.inr N1) (q := 24) rfl ?_
    intro T4 h4 O4 W4
    have V_a1 : Ar Z h4 a1 .int 7 (lf [(.int (0 : Int32)), (.int (1 : Int32)), (.int (2 : Int32)), (.int (0 : Int32)), (.int (0 : Int32)), (.int (0 : Int32)), (.int (0 : Int32))]) := V_a1.setL W4 (by decide) (Nat.le_of_ble_eq_true rfl)
    refine Jvm.OwnW.dup O4 at_24 rfl (q := 25) rfl ?_
    refine Jvm.OwnW.iconst O4 at_25 (r := (3 : Int32)) rfl (q := 26) rfl ?_
    refine Jvm.OwnW.iconst O4 at_26 (r := (3 : Int32)) rfl (q := 27) rfl ?_
    refine Jvm.OwnW.iasA O4 at_27 V_a1 (i := 3) rfl (by decide) (Or.inr N1) (q := 28) rfl ?_
    intro T5 h5 O5 W5
    have V_a1 : Ar Z h5 a1 .int 7 (lf [(.int (0 : Int32)), (.int (1 : Int32)), (.int (2 : Int32)), (.int (3 : Int32)), (.int (0 : Int32)), (.int (0 : Int32)), (.int (0 : Int32))]) := V_a1.setL W5 (by decide) (Nat.le_of_ble_eq_true rfl)
    refine Jvm.OwnW.dup O5 at_28 rfl (q := 29) rfl ?_
    refine Jvm.OwnW.iconst O5 at_29 (r := (4 : Int32)) rfl (q := 30) rfl ?_
    refine Jvm.OwnW.iconst O5 at_30 (r := (4 : Int32)) rfl (q := 31) rfl ?_
    refine Jvm.OwnW.iasA O5 at_31 V_a1 (i := 4) rfl (by decide) (Or.inr N1) (q := 32) rfl ?_
    intro T6 h6 O6 W6
    have V_a1 : Ar Z h6 a1 .int 7 (lf [(.int (0 : Int32)), (.int (1 : Int32)), (.int (2 : Int32)), (.int (3 : Int32)), (.int (4 : Int32)), (.int (0 : Int32)), (.int (0 : Int32))]) := V_a1.setL W6 (by decide) (Nat.le_of_ble_eq_true rfl)
    refine Jvm.OwnW.dup O6 at_32 rfl (q := 33) rfl ?_
    refine Jvm.OwnW.iconst O6 at_33 (r := (5 : Int32)) rfl (q := 34) rfl ?_
    refine Jvm.OwnW.iconst O6 at_34 (r := (5 : Int32)) rfl (q := 35) rfl ?_
    refine Jvm.OwnW.iasA O6 at_35 V_a1 (i := 5) rfl (by decide) (Or.inr N1) (q := 36) rfl ?_
    intro T7 h7 O7 W7
    have V_a1 : Ar Z h7 a1 .int 7 (lf [(.int (0 : Int32)), (.int (1 : Int32)), (.int (2 : Int32)), (.int (3 : Int32)), (.int (4 : Int32)), (.int (5 : Int32)), (.int (0 : Int32))]) := V_a1.setL W7 (by decide) (Nat.le_of_ble_eq_true rfl)
    refine Jvm.OwnW.dup O7 at_36 rfl (q := 37) rfl ?_
    refine Jvm.OwnW.bipush O7 at_37 (r := (6 : Int32)) rfl (q := 39) rfl ?_
    refine Jvm.OwnW.bipush O7 at_39 (r := (6 : Int32)) rfl (q := 41) rfl ?_
    refine Jvm.OwnW.iasA O7 at_41 V_a1 (i := 6) rfl (by decide) (Or.inr N1) (q := 42) rfl ?_
    intro T8 h8 O8 W8
    have V_a1 : Ar Z h8 a1 .int 7 (lf [(.int (0 : Int32)), (.int (1 : Int32)), (.int (2 : Int32)), (.int (3 : Int32)), (.int (4 : Int32)), (.int (5 : Int32)), (.int (6 : Int32))]) := V_a1.setL W8 (by decide) (Nat.le_of_ble_eq_true rfl)
    refine Jvm.OwnW.astore O8 at_42 rfl (L' := #[.val (.int p0), .val (.int p1), .val (.int p2), .val (.int p3), .val (.int p4), .val (.int p5), .val (.int (0 : Int32)), .val (.ref a1), .unset, .unset, .unset, .unset, .unset, .unset, .unset, .unset, .unset, .unset, .unset, .unset, .unset, .unset, .unset, .unset, .unset]) rfl (q := 44) rfl ?_
    refine Jvm.OwnW.iconst O8 at_44 (r := (4 : Int32)) rfl (q := 45) rfl ?_
    refine Jvm.OwnW.newA' O8 at_45 (ty := .int) rfl (hw _ (List.mem_of_getElem? (i := 1) rfl)) (N := 4) rfl (cap := 4) (by decide) (by decide) (c2 := 2) (s2 := 11) rfl rfl (by decide) (by decide) (q := 47) rfl ?_
    intro a9 T9 h9 g9 N9 O9 X9 V_a9
    have ne_a1_a9 : a1 ≠ a9 := Nat.ne_of_lt (Nat.lt_of_lt_of_le V_a1.lt (Nat.le_of_eq g9.symm))
    have V_a1 := V_a1.ext X9
    have V_a9 : Ar Z h9 a9 .int 4 (lf [(.int (0 : Int32)), (.int (0 : Int32)), (.int (0 : Int32)), (.int (0 : Int32))]) := V_a9.congr (lf_rep 4 _)
    refine Jvm.OwnW.dup O9 at_47 rfl (q := 48) rfl ?_
    refine Jvm.OwnW.iconst O9 at_48 (r := (0 : Int32)) rfl (q := 49) rfl ?_
    refine Jvm.OwnW.iconst O9 at_49 (r := (0 : Int32)) rfl (q := 50) rfl ?_
    refine Jvm.OwnW.iasA O9 at_50 V_a9 (i := 0) rfl (by decide) (Or.inr N9) (q := 51) rfl ?_
    intro T10 h10 O10 W10
    have V_a9 : Ar Z h10 a9 .int 4 (lf [(.int (0 : Int32)), (.int (0 : Int32)), (.int (0 : Int32)), (.int (0 : Int32))]) := V_a9.setL W10 (by decide) (Nat.le_of_ble_eq_true rfl)
    have V_a1 := V_a1.other W10 ne_a1_a9
    refine Jvm.OwnW.dup O10 at_51 rfl (q := 52) rfl ?_
    refine Jvm.OwnW.iconst O10 at_52 (r := (1 : Int32)) rfl (q := 53) rfl ?_
    refine Jvm.OwnW.iconst O10 at_53 (r := (4 : Int32)) rfl (q := 54) rfl ?_
    refine Jvm.OwnW.iasA O10 at_54 V_a9 (i := 1) rfl (by decide) (Or.inr N9) (q := 55) rfl ?_
    intro T11 h11 O11 W11
    have V_a9 : Ar Z h11 a9 .int 4 (lf [(.int (0 : Int32)), (.int (4 : Int32)), (.int (0 : Int32)), (.int (0 : Int32))]) := V_a9.setL W11 (by decide) (Nat.le_of_ble_eq_true rfl)
    have V_a1 := V_a1.other W11 ne_a1_a9
    refine Jvm.OwnW.dup O11 at_55 rfl (q := 56) rfl ?_
    refine Jvm.OwnW.iconst O11 at_56 (r := (2 : Int32)) rfl (q := 57) rfl ?_
    refine Jvm.OwnW.bipush O11 at_57 (r := (6 : Int32)) rfl (q := 59) rfl ?_
    refine Jvm.OwnW.iasA O11 at_59 V_a9 (i := 2) rfl (by decide) (Or.inr N9) (q := 60) rfl ?_
    intro T12 h12 O12 W12
    have V_a9 : Ar Z h12 a9 .int 4 (lf [(.int (0 : Int32)), (.int (4 : Int32)), (.int (6 : Int32)), (.int (0 : Int32))]) := V_a9.setL W12 (by decide) (Nat.le_of_ble_eq_true rfl)
    have V_a1 := V_a1.other W12 ne_a1_a9
    refine Jvm.OwnW.dup O12 at_60 rfl (q := 61) rfl ?_
    refine Jvm.OwnW.iconst O12 at_61 (r := (3 : Int32)) rfl (q := 62) rfl ?_
    refine Jvm.OwnW.bipush O12 at_62 (r := (6 : Int32)) rfl (q := 64) rfl ?_
    refine Jvm.OwnW.iasA O12 at_64 V_a9 (i := 3) rfl (by decide) (Or.inr N9) (q := 65) rfl ?_
    intro T13 h13 O13 W13
    have V_a9 : Ar Z h13 a9 .int 4 (lf [(.int (0 : Int32)), (.int (4 : Int32)), (.int (6 : Int32)), (.int (6 : Int32))]) := V_a9.setL W13 (by decide) (Nat.le_of_ble_eq_true rfl)
    have V_a1 := V_a1.other W13 ne_a1_a9
    refine Jvm.OwnW.astore O13 at_65 rfl (L' := #[.val (.int p0), .val (.int p1), .val (.int p2), .val (.int p3), .val (.int p4), .val (.int p5), .val (.int (0 : Int32)), .val (.ref a1), .val (.ref a9), .unset, .unset, .unset, .unset, .unset, .unset, .unset, .unset, .unset, .unset, .unset, .unset, .unset, .unset, .unset, .unset]) rfl (q := 67) rfl ?_
    refine Jvm.OwnW.bipush O13 at_67 (r := (7 : Int32)) rfl (q := 69) rfl ?_
    refine Jvm.OwnW.newA' O13 at_69 (ty := .int) rfl (hw _ (List.mem_of_getElem? (i := 1) rfl)) (N := 7) rfl (cap := 7) (by decide) (by decide) (c2 := 3) (s2 := 18) rfl rfl (by decide) (by decide) (q := 71) rfl ?_
    intro a14 T14 h14 g14 N14 O14 X14 V_a14
    have ne_a1_a14 : a1 ≠ a14 := Nat.ne_of_lt (Nat.lt_of_lt_of_le V_a1.lt (Nat.le_of_eq g14.symm))
    have ne_a9_a14 : a9 ≠ a14 := Nat.ne_of_lt (Nat.lt_of_lt_of_le V_a9.lt (Nat.le_of_eq g14.symm))
    have V_a1 := V_a1.ext X14
    have V_a9 := V_a9.ext X14
    have V_a14 : Ar Z h14 a14 .int 7 (lf [(.int (0 : Int32)), (.int (0 : Int32)), (.int (0 : Int32)), (.int (0 : Int32)), (.int (0 : Int32)), (.int (0 : Int32)), (.int (0 : Int32))]) := V_a14.congr (lf_rep 7 _)
    refine Jvm.OwnW.dup O14 at_71 rfl (q := 72) rfl ?_
    refine Jvm.OwnW.iconst O14 at_72 (r := (0 : Int32)) rfl (q := 73) rfl ?_
    refine Jvm.OwnW.iconst O14 at_73 (r := (-1 : Int32)) rfl (q := 74) rfl ?_
    refine Jvm.OwnW.iasA O14 at_74 V_a14 (i := 0) rfl (by decide) (Or.inr N14) (q := 75) rfl ?_
    intro T15 h15 O15 W15
    have V_a14 : Ar Z h15 a14 .int 7 (lf [(.int (-1 : Int32)), (.int (0 : Int32)), (.int (0 : Int32)), (.int (0 : Int32)), (.int (0 : Int32)), (.int (0 : Int32)), (.int (0 : Int32))]) := V_a14.setL W15 (by decide) (Nat.le_of_ble_eq_true rfl)
    have V_a1 := V_a1.other W15 ne_a1_a14
    have V_a9 := V_a9.other W15 ne_a9_a14
    refine Jvm.OwnW.dup O15 at_75 rfl (q := 76) rfl ?_
    refine Jvm.OwnW.iconst O15 at_76 (r := (1 : Int32)) rfl (q := 77) rfl ?_
    refine Jvm.OwnW.iconst O15 at_77 (r := (0 : Int32)) rfl (q := 78) rfl ?_
    refine Jvm.OwnW.iasA O15 at_78 V_a14 (i := 1) rfl (by decide) (Or.inr N14) (q := 79) rfl ?_
    intro T16 h16 O16 W16
    have V_a14 : Ar Z h16 a14 .int 7 (lf [(.int (-1 : Int32)), (.int (0 : Int32)), (.int (0 : Int32)), (.int (0 : Int32)), (.int (0 : Int32)), (.int (0 : Int32)), (.int (0 : Int32))]) := V_a14.setL W16 (by decide) (Nat.le_of_ble_eq_true rfl)
    have V_a1 := V_a1.other W16 ne_a1_a14
    have V_a9 := V_a9.other W16 ne_a9_a14
    refine Jvm.OwnW.dup O16 at_79 rfl (q := 80) rfl ?_
    refine Jvm.OwnW.iconst O16 at_80 (r := (2 : Int32)) rfl (q := 81) rfl ?_
    refine Jvm.OwnW.iconst O16 at_81 (r := (1 : Int32)) rfl (q := 82) rfl ?_
    refine Jvm.OwnW.iasA O16 at_82 V_a14 (i := 2) rfl (by decide) (Or.inr N14) (q := 83) rfl ?_
    intro T17 h17 O17 W17
    have V_a14 : Ar Z h17 a14 .int 7 (lf [(.int (-1 : Int32)), (.int (0 : Int32)), (.int (1 : Int32)), (.int (0 : Int32)), (.int (0 : Int32)), (.int (0 : Int32)), (.int (0 : Int32))]) := V_a14.setL W17 (by decide) (Nat.le_of_ble_eq_true rfl)
    have V_a1 := V_a1.other W17 ne_a1_a14
    have V_a9 := V_a9.other W17 ne_a9_a14
    refine Jvm.OwnW.dup O17 at_83 rfl (q := 84) rfl ?_
    refine Jvm.OwnW.iconst O17 at_84 (r := (3 : Int32)) rfl (q := 85) rfl ?_
    refine Jvm.OwnW.iconst O17 at_85 (r := (0 : Int32)) rfl (q := 86) rfl ?_
    refine Jvm.OwnW.iasA O17 at_86 V_a14 (i := 3) rfl (by decide) (Or.inr N14) (q := 87) rfl ?_
    intro T18 h18 O18 W18
    have V_a14 : Ar Z h18 a14 .int 7 (lf [(.int (-1 : Int32)), (.int (0 : Int32)), (.int (1 : Int32)), (.int (0 : Int32)), (.int (0 : Int32)), (.int (0 : Int32)), (.int (0 : Int32))]) := V_a14.setL W18 (by decide) (Nat.le_of_ble_eq_true rfl)
    have V_a1 := V_a1.other W18 ne_a1_a14
    have V_a9 := V_a9.other W18 ne_a9_a14
    refine Jvm.OwnW.dup O18 at_87 rfl (q := 88) rfl ?_
    refine Jvm.OwnW.iconst O18 at_88 (r := (4 : Int32)) rfl (q := 89) rfl ?_
    refine Jvm.OwnW.iconst O18 at_89 (r := (-1 : Int32)) rfl (q := 90) rfl ?_
    refine Jvm.OwnW.iasA O18 at_90 V_a14 (i := 4) rfl (by decide) (Or.inr N14) (q := 91) rfl ?_
    intro T19 h19 O19 W19
    have V_a14 : Ar Z h19 a14 .int 7 (lf [(.int (-1 : Int32)), (.int (0 : Int32)), (.int (1 : Int32)), (.int (0 : Int32)), (.int (-1 : Int32)), (.int (0 : Int32)), (.int (0 : Int32))]) := V_a14.setL W19 (by decide) (Nat.le_of_ble_eq_true rfl)
    have V_a1 := V_a1.other W19 ne_a1_a14
    have V_a9 := V_a9.other W19 ne_a9_a14
    refine Jvm.OwnW.dup O19 at_91 rfl (q := 92) rfl ?_
    refine Jvm.OwnW.iconst O19 at_92 (r := (5 : Int32)) rfl (q := 93) rfl ?_
    refine Jvm.OwnW.iconst O19 at_93 (r := (4 : Int32)) rfl (q := 94) rfl ?_
    refine Jvm.OwnW.iasA O19 at_94 V_a14 (i := 5) rfl (by decide) (Or.inr N14) (q := 95) rfl ?_
    intro T20 h20 O20 W20
    have V_a14 : Ar Z h20 a14 .int 7 (lf [(.int (-1 : Int32)), (.int (0 : Int32)), (.int (1 : Int32)), (.int (0 : Int32)), (.int (-1 : Int32)), (.int (4 : Int32)), (.int (0 : Int32))]) := V_a14.setL W20 (by decide) (Nat.le_of_ble_eq_true rfl)
    have V_a1 := V_a1.other W20 ne_a1_a14
    have V_a9 := V_a9.other W20 ne_a9_a14
    refine Jvm.OwnW.dup O20 at_95 rfl (q := 96) rfl ?_
    refine Jvm.OwnW.bipush O20 at_96 (r := (6 : Int32)) rfl (q := 98) rfl ?_
    refine Jvm.OwnW.iconst O20 at_98 (r := (-1 : Int32)) rfl (q := 99) rfl ?_
    refine Jvm.OwnW.iasA O20 at_99 V_a14 (i := 6) rfl (by decide) (Or.inr N14) (q := 100) rfl ?_
    intro T21 h21 O21 W21
    have V_a14 : Ar Z h21 a14 .int 7 (lf [(.int (-1 : Int32)), (.int (0 : Int32)), (.int (1 : Int32)), (.int (0 : Int32)), (.int (-1 : Int32)), (.int (4 : Int32)), (.int (-1 : Int32))]) := V_a14.setL W21 (by decide) (Nat.le_of_ble_eq_true rfl)
    have V_a1 := V_a1.other W21 ne_a1_a14
    have V_a9 := V_a9.other W21 ne_a9_a14
    refine Jvm.OwnW.astore O21 at_100 rfl (L' := #[.val (.int p0), .val (.int p1), .val (.int p2), .val (.int p3), .val (.int p4), .val (.int p5), .val (.int (0 : Int32)), .val (.ref a1), .val (.ref a9), .val (.ref a14), .unset, .unset, .unset, .unset, .unset, .unset, .unset, .unset, .unset, .unset, .unset, .unset, .unset, .unset, .unset]) rfl (q := 102) rfl ?_
    refine Jvm.OwnW.bipush O21 at_102 (r := (7 : Int32)) rfl (q := 104) rfl ?_
    refine Jvm.OwnW.newA' O21 at_104 (ty := .int) rfl (hw _ (List.mem_of_getElem? (i := 1) rfl)) (N := 7) rfl (cap := 7) (by decide) (by decide) (c2 := 4) (s2 := 25) rfl rfl (by decide) (by decide) (q := 106) rfl ?_
    intro a22 T22 h22 g22 N22 O22 X22 V_a22
    have ne_a1_a22 : a1 ≠ a22 := Nat.ne_of_lt (Nat.lt_of_lt_of_le V_a1.lt (Nat.le_of_eq g22.symm))
    have ne_a9_a22 : a9 ≠ a22 := Nat.ne_of_lt (Nat.lt_of_lt_of_le V_a9.lt (Nat.le_of_eq g22.symm))
    have ne_a14_a22 : a14 ≠ a22 := Nat.ne_of_lt (Nat.lt_of_lt_of_le V_a14.lt (Nat.le_of_eq g22.symm))
    have V_a1 := V_a1.ext X22
    have V_a9 := V_a9.ext X22
    have V_a14 := V_a14.ext X22
    have V_a22 : Ar Z h22 a22 .int 7 (lf [(.int (0 : Int32)), (.int (0 : Int32)), (.int (0 : Int32)), (.int (0 : Int32)), (.int (0 : Int32)), (.int (0 : Int32)), (.int (0 : Int32))]) := V_a22.congr (lf_rep 7 _)
    refine Jvm.OwnW.dup O22 at_106 rfl (q := 107) rfl ?_
    refine Jvm.OwnW.iconst O22 at_107 (r := (0 : Int32)) rfl (q := 108) rfl ?_
    refine Jvm.OwnW.iconst O22 at_108 (r := (-1 : Int32)) rfl (q := 109) rfl ?_
    refine Jvm.OwnW.iasA O22 at_109 V_a22 (i := 0) rfl (by decide) (Or.inr N22) (q := 110) rfl ?_
    intro T23 h23 O23 W23
    have V_a22 : Ar Z h23 a22 .int 7 (lf [(.int (-1 : Int32)), (.int (0 : Int32)), (.int (0 : Int32)), (.int (0 : Int32)), (.int (0 : Int32)), (.int (0 : Int32)), (.int (0 : Int32))]) := V_a22.setL W23 (by decide) (Nat.le_of_ble_eq_true rfl)
    have V_a1 := V_a1.other W23 ne_a1_a22
    have V_a9 := V_a9.other W23 ne_a9_a22
    have V_a14 := V_a14.other W23 ne_a14_a22
    refine Jvm.OwnW.dup O23 at_110 rfl (q := 111) rfl ?_
    refine Jvm.OwnW.iconst O23 at_111 (r := (1 : Int32)) rfl (q := 112) rfl ?_
    refine Jvm.OwnW.iconst O23 at_112 (r := (0 : Int32)) rfl (q := 113) rfl ?_
    refine Jvm.OwnW.iasA O23 at_113 V_a22 (i := 1) rfl (by decide) (Or.inr N22) (q := 114) rfl ?_
    intro T24 h24 O24 W24
    have V_a22 : Ar Z h24 a22 .int 7 (lf [(.int (-1 : Int32)), (.int (0 : Int32)), (.int (0 : Int32)), (.int (0 : Int32)), (.int (0 : Int32)), (.int (0 : Int32)), (.int (0 : Int32))]) := V_a22.setL W24 (by decide) (Nat.le_of_ble_eq_true rfl)
    have V_a1 := V_a1.other W24 ne_a1_a22
    have V_a9 := V_a9.other W24 ne_a9_a22
    have V_a14 := V_a14.other W24 ne_a14_a22
    refine Jvm.OwnW.dup O24 at_114 rfl (q := 115) rfl ?_
    refine Jvm.OwnW.iconst O24 at_115 (r := (2 : Int32)) rfl (q := 116) rfl ?_
    refine Jvm.OwnW.iconst O24 at_116 (r := (1 : Int32)) rfl (q := 117) rfl ?_
    refine Jvm.OwnW.iasA O24 at_117 V_a22 (i := 2) rfl (by decide) (Or.inr N22) (q := 118) rfl ?_
    intro T25 h25 O25 W25
    have V_a22 : Ar Z h25 a22 .int 7 (lf [(.int (-1 : Int32)), (.int (0 : Int32)), (.int (1 : Int32)), (.int (0 : Int32)), (.int (0 : Int32)), (.int (0 : Int32)), (.int (0 : Int32))]) := V_a22.setL W25 (by decide) (Nat.le_of_ble_eq_true rfl)
    have V_a1 := V_a1.other W25 ne_a1_a22
    have V_a9 := V_a9.other W25 ne_a9_a22
    have V_a14 := V_a14.other W25 ne_a14_a22
    refine Jvm.OwnW.dup O25 at_118 rfl (q := 119) rfl ?_
    refine Jvm.OwnW.iconst O25 at_119 (r := (3 : Int32)) rfl (q := 120) rfl ?_
    refine Jvm.OwnW.iconst O25 at_120 (r := (2 : Int32)) rfl (q := 121) rfl ?_
    refine Jvm.OwnW.iasA O25 at_121 V_a22 (i := 3) rfl (by decide) (Or.inr N22) (q := 122) rfl ?_
    intro T26 h26 O26 W26
    have V_a22 : Ar Z h26 a22 .int 7 (lf [(.int (-1 : Int32)), (.int (0 : Int32)), (.int (1 : Int32)), (.int (2 : Int32)), (.int (0 : Int32)), (.int (0 : Int32)), (.int (0 : Int32))]) := V_a22.setL W26 (by decide) (Nat.le_of_ble_eq_true rfl)
    have V_a1 := V_a1.other W26 ne_a1_a22
    have V_a9 := V_a9.other W26 ne_a9_a22
    have V_a14 := V_a14.other W26 ne_a14_a22
    refine Jvm.OwnW.dup O26 at_122 rfl (q := 123) rfl ?_
    refine Jvm.OwnW.iconst O26 at_123 (r := (4 : Int32)) rfl (q := 124) rfl ?_
    refine Jvm.OwnW.iconst O26 at_124 (r := (-1 : Int32)) rfl (q := 125) rfl ?_
    refine Jvm.OwnW.iasA O26 at_125 V_a22 (i := 4) rfl (by decide) (Or.inr N22) (q := 126) rfl ?_
    intro T27 h27 O27 W27
    have V_a22 : Ar Z h27 a22 .int 7 (lf [(.int (-1 : Int32)), (.int (0 : Int32)), (.int (1 : Int32)), (.int (2 : Int32)), (.int (-1 : Int32)), (.int (0 : Int32)), (.int (0 : Int32))]) := V_a22.setL W27 (by decide) (Nat.le_of_ble_eq_true rfl)
    have V_a1 := V_a1.other W27 ne_a1_a22
    have V_a9 := V_a9.other W27 ne_a9_a22
    have V_a14 := V_a14.other W27 ne_a14_a22
    refine Jvm.OwnW.dup O27 at_126 rfl (q := 127) rfl ?_
    refine Jvm.OwnW.iconst O27 at_127 (r := (5 : Int32)) rfl (q := 128) rfl ?_
    refine Jvm.OwnW.iconst O27 at_128 (r := (1 : Int32)) rfl (q := 129) rfl ?_
    refine Jvm.OwnW.iasA O27 at_129 V_a22 (i := 5) rfl (by decide) (Or.inr N22) (q := 130) rfl ?_
    intro T28 h28 O28 W28
    have V_a22 : Ar Z h28 a22 .int 7 (lf [(.int (-1 : Int32)), (.int (0 : Int32)), (.int (1 : Int32)), (.int (2 : Int32)), (.int (-1 : Int32)), (.int (1 : Int32)), (.int (0 : Int32))]) := V_a22.setL W28 (by decide) (Nat.le_of_ble_eq_true rfl)
    have V_a1 := V_a1.other W28 ne_a1_a22
    have V_a9 := V_a9.other W28 ne_a9_a22
    have V_a14 := V_a14.other W28 ne_a14_a22
    refine Jvm.OwnW.dup O28 at_130 rfl (q := 131) rfl ?_
    refine Jvm.OwnW.bipush O28 at_131 (r := (6 : Int32)) rfl (q := 133) rfl ?_
    refine Jvm.OwnW.iconst O28 at_133 (r := (-1 : Int32)) rfl (q := 134) rfl ?_
    refine Jvm.OwnW.iasA O28 at_134 V_a22 (i := 6) rfl (by decide) (Or.inr N22) (q := 135) rfl ?_
    intro T29 h29 O29 W29
    have V_a22 : Ar Z h29 a22 .int 7 (lf [(.int (-1 : Int32)), (.int (0 : Int32)), (.int (1 : Int32)), (.int (2 : Int32)), (.int (-1 : Int32)), (.int (1 : Int32)), (.int (-1 : Int32))]) := V_a22.setL W29 (by decide) (Nat.le_of_ble_eq_true rfl)
    have V_a1 := V_a1.other W29 ne_a1_a22
    have V_a9 := V_a9.other W29 ne_a9_a22
    have V_a14 := V_a14.other W29 ne_a14_a22
    refine Jvm.OwnW.astore O29 at_135 rfl (L' := #[.val (.int p0), .val (.int p1), .val (.int p2), .val (.int p3), .val (.int p4), .val (.int p5), .val (.int (0 : Int32)), .val (.ref a1), .val (.ref a9), .val (.ref a14), .val (.ref a22), .unset, .unset, .unset, .unset, .unset, .unset, .unset, .unset, .unset, .unset, .unset, .unset, .unset, .unset]) rfl (q := 137) rfl ?_
    refine Jvm.OwnW.iconst O29 at_137 (r := (3 : Int32)) rfl (q := 138) rfl ?_
    refine Jvm.OwnW.newA' O29 at_138 (ty := .int) rfl (hw _ (List.mem_of_getElem? (i := 1) rfl)) (N := 3) rfl (cap := 3) (by decide) (by decide) (c2 := 5) (s2 := 28) rfl rfl (by decide) (by decide) (q := 140) rfl ?_
    intro a30 T30 h30 g30 N30 O30 X30 V_a30
    have ne_a1_a30 : a1 ≠ a30 := Nat.ne_of_lt (Nat.lt_of_lt_of_le V_a1.lt (Nat.le_of_eq g30.symm))
    have ne_a9_a30 : a9 ≠ a30 := Nat.ne_of_lt (Nat.lt_of_lt_of_le V_a9.lt (Nat.le_of_eq g30.symm))
    have ne_a14_a30 : a14 ≠ a30 := Nat.ne_of_lt (Nat.lt_of_lt_of_le V_a14.lt (Nat.le_of_eq g30.symm))
    have ne_a22_a30 : a22 ≠ a30 := Nat.ne_of_lt (Nat.lt_of_lt_of_le V_a22.lt (Nat.le_of_eq g30.symm))
    have V_a1 := V_a1.ext X30
    have V_a9 := V_a9.ext X30
    have V_a14 := V_a14.ext X30
    have V_a22 := V_a22.ext X30
    have V_a30 : Ar Z h30 a30 .int 3 (lf [(.int (0 : Int32)), (.int (0 : Int32)), (.int (0 : Int32))]) := V_a30.congr (lf_rep 3 _)
    refine Jvm.OwnW.dup O30 at_140 rfl (q := 141) rfl ?_
    refine Jvm.OwnW.iconst O30 at_141 (r := (0 : Int32)) rfl (q := 142) rfl ?_
    refine Jvm.OwnW.iloadN O30 at_142 rfl (q := 143) rfl ?_
    refine Jvm.OwnW.iasA O30 at_143 V_a30 (i := 0) rfl (by decide) (Or.inr N30) (q := 144) rfl ?_
    intro T31 h31 O31 W31
    have V_a30 : Ar Z h31 a30 .int 3 (lf [(.int p2), (.int (0 : Int32)), (.int (0 : Int32))]) := V_a30.setL W31 (by decide) (Nat.le_of_ble_eq_true rfl)
    have V_a1 := V_a1.other W31 ne_a1_a30
    have V_a9 := V_a9.other W31 ne_a9_a30
    have V_a14 := V_a14.other W31 ne_a14_a30
    have V_a22 := V_a22.other W31 ne_a22_a30
    refine Jvm.OwnW.dup O31 at_144 rfl (q := 145) rfl ?_
    refine Jvm.OwnW.iconst O31 at_145 (r := (1 : Int32)) rfl (q := 146) rfl ?_
    refine Jvm.OwnW.iloadN O31 at_146 rfl (q := 147) rfl ?_
    refine Jvm.OwnW.iasA O31 at_147 V_a30 (i := 1) rfl (by decide) (Or.inr N30) (q := 148) rfl ?_
    intro T32 h32 O32 W32
    have V_a30 : Ar Z h32 a30 .int 3 (lf [(.int p2), (.int p3), (.int (0 : Int32))]) := V_a30.setL W32 (by decide) (Nat.le_of_ble_eq_true rfl)
    have V_a1 := V_a1.other W32 ne_a1_a30
    have V_a9 := V_a9.other W32 ne_a9_a30
    have V_a14 := V_a14.other W32 ne_a14_a30
    have V_a22 := V_a22.other W32 ne_a22_a30
    refine Jvm.OwnW.dup O32 at_148 rfl (q := 149) rfl ?_
    refine Jvm.OwnW.iconst O32 at_149 (r := (2 : Int32)) rfl (q := 150) rfl ?_
    refine Jvm.OwnW.iload O32 at_150 rfl (q := 152) rfl ?_
    refine Jvm.OwnW.iasA O32 at_152 V_a30 (i := 2) rfl (by decide) (Or.inr N30) (q := 153) rfl ?_
    intro T33 h33 O33 W33
    have V_a30 : Ar Z h33 a30 .int 3 (lf [(.int p2), (.int p3), (.int p4)]) := V_a30.setL W33 (by decide) (Nat.le_of_ble_eq_true rfl)
    have V_a1 := V_a1.other W33 ne_a1_a30
    have V_a9 := V_a9.other W33 ne_a9_a30
    have V_a14 := V_a14.other W33 ne_a14_a30
    have V_a22 := V_a22.other W33 ne_a22_a30
    refine Jvm.OwnW.astore O33 at_153 rfl (L' := #[.val (.int p0), .val (.int p1), .val (.int p2), .val (.int p3), .val (.int p4), .val (.int p5), .val (.int (0 : Int32)), .val (.ref a1), .val (.ref a9), .val (.ref a14), .val (.ref a22), .val (.ref a30), .unset, .unset, .unset, .unset, .unset, .unset, .unset, .unset, .unset, .unset, .unset, .unset, .unset]) rfl (q := 155) rfl ?_
    refine Jvm.OwnW.bipush O33 at_155 (r := (7 : Int32)) rfl (q := 157) rfl ?_
    refine Jvm.OwnW.newA' O33 at_157 (ty := .int) rfl (hw _ (List.mem_of_getElem? (i := 1) rfl)) (N := 7) rfl (cap := 7) (by decide) (by decide) (c2 := 6) (s2 := 35) rfl rfl (by decide) (by decide) (q := 159) rfl ?_
    intro a34 T34 h34 g34 N34 O34 X34 V_a34
    have ne_a1_a34 : a1 ≠ a34 := Nat.ne_of_lt (Nat.lt_of_lt_of_le V_a1.lt (Nat.le_of_eq g34.symm))
    have ne_a9_a34 : a9 ≠ a34 := Nat.ne_of_lt (Nat.lt_of_lt_of_le V_a9.lt (Nat.le_of_eq g34.symm))
    have ne_a14_a34 : a14 ≠ a34 := Nat.ne_of_lt (Nat.lt_of_lt_of_le V_a14.lt (Nat.le_of_eq g34.symm))
    have ne_a22_a34 : a22 ≠ a34 := Nat.ne_of_lt (Nat.lt_of_lt_of_le V_a22.lt (Nat.le_of_eq g34.symm))
    have ne_a30_a34 : a30 ≠ a34 := Nat.ne_of_lt (Nat.lt_of_lt_of_le V_a30.lt (Nat.le_of_eq g34.symm))
    have V_a1 := V_a1.ext X34
    have V_a9 := V_a9.ext X34
    have V_a14 := V_a14.ext X34
    have V_a22 := V_a22.ext X34
    have V_a30 := V_a30.ext X34
    have V_a34 : Ar Z h34 a34 .int 7 (lf [(.int (0 : Int32)), (.int (0 : Int32)), (.int (0 : Int32)), (.int (0 : Int32)), (.int (0 : Int32)), (.int (0 : Int32)), (.int (0 : Int32))]) := V_a34.congr (lf_rep 7 _)
    refine Jvm.OwnW.dup O34 at_159 rfl (q := 160) rfl ?_
    refine Jvm.OwnW.iconst O34 at_160 (r := (0 : Int32)) rfl (q := 161) rfl ?_
    refine Jvm.OwnW.iload O34 at_161 rfl (q := 163) rfl ?_
    refine Jvm.OwnW.iasA O34 at_163 V_a34 (i := 0) rfl (by decide) (Or.inr N34) (q := 164) rfl ?_
    intro T35 h35 O35 W35
    have V_a34 : Ar Z h35 a34 .int 7 (lf [(.int p5), (.int (0 : Int32)), (.int (0 : Int32)), (.int (0 : Int32)), (.int (0 : Int32)), (.int (0 : Int32)), (.int (0 : Int32))]) := V_a34.setL W35 (by decide) (Nat.le_of_ble_eq_true rfl)
    have V_a1 := V_a1.other W35 ne_a1_a34
    have V_a9 := V_a9.other W35 ne_a9_a34
    have V_a14 := V_a14.other W35 ne_a14_a34
    have V_a22 := V_a22.other W35 ne_a22_a34
    have V_a30 := V_a30.other W35 ne_a30_a34
    refine Jvm.OwnW.dup O35 at_164 rfl (q := 165) rfl ?_
    refine Jvm.OwnW.iconst O35 at_165 (r := (1 : Int32)) rfl (q := 166) rfl ?_
    refine Jvm.OwnW.iload O35 at_166 rfl (q := 168) rfl ?_
    refine Jvm.OwnW.iasA O35 at_168 V_a34 (i := 1) rfl (by decide) (Or.inr N34) (q := 169) rfl ?_
    intro T36 h36 O36 W36
    have V_a34 : Ar Z h36 a34 .int 7 (lf [(.int p5), (.int p5), (.int (0 : Int32)), (.int (0 : Int32)), (.int (0 : Int32)), (.int (0 : Int32)), (.int (0 : Int32))]) := V_a34.setL W36 (by decide) (Nat.le_of_ble_eq_true rfl)
    have V_a1 := V_a1.other W36 ne_a1_a34
    have V_a9 := V_a9.other W36 ne_a9_a34
    have V_a14 := V_a14.other W36 ne_a14_a34
    have V_a22 := V_a22.other W36 ne_a22_a34
    have V_a30 := V_a30.other W36 ne_a30_a34
    refine Jvm.OwnW.dup O36 at_169 rfl (q := 170) rfl ?_
    refine Jvm.OwnW.iconst O36 at_170 (r := (2 : Int32)) rfl (q := 171) rfl ?_
    refine Jvm.OwnW.iload O36 at_171 rfl (q := 173) rfl ?_
    refine Jvm.OwnW.iasA O36 at_173 V_a34 (i := 2) rfl (by decide) (Or.inr N34) (q := 174) rfl ?_
    intro T37 h37 O37 W37
    have V_a34 : Ar Z h37 a34 .int 7 (lf [(.int p5), (.int p5), (.int p5), (.int (0 : Int32)), (.int (0 : Int32)), (.int (0 : Int32)), (.int (0 : Int32))]) := V_a34.setL W37 (by decide) (Nat.le_of_ble_eq_true rfl)
    have V_a1 := V_a1.other W37 ne_a1_a34
    have V_a9 := V_a9.other W37 ne_a9_a34
    have V_a14 := V_a14.other W37 ne_a14_a34
    have V_a22 := V_a22.other W37 ne_a22_a34
    have V_a30 := V_a30.other W37 ne_a30_a34
    refine Jvm.OwnW.dup O37 at_174 rfl (q := 175) rfl ?_
    refine Jvm.OwnW.iconst O37 at_175 (r := (3 : Int32)) rfl (q := 176) rfl ?_
    refine Jvm.OwnW.iload O37 at_176 rfl (q := 178) rfl ?_
    refine Jvm.OwnW.iasA O37 at_178 V_a34 (i := 3) rfl (by decide) (Or.inr N34) (q := 179) rfl ?_
    intro T38 h38 O38 W38
    have V_a34 : Ar Z h38 a34 .int 7 (lf [(.int p5), (.int p5), (.int p5), (.int p5), (.int (0 : Int32)), (.int (0 : Int32)), (.int (0 : Int32))]) := V_a34.setL W38 (by decide) (Nat.le_of_ble_eq_true rfl)
    have V_a1 := V_a1.other W38 ne_a1_a34
    have V_a9 := V_a9.other W38 ne_a9_a34
    have V_a14 := V_a14.other W38 ne_a14_a34
    have V_a22 := V_a22.other W38 ne_a22_a34
    have V_a30 := V_a30.other W38 ne_a30_a34
    refine Jvm.OwnW.dup O38 at_179 rfl (q := 180) rfl ?_
    refine Jvm.OwnW.iconst O38 at_180 (r := (4 : Int32)) rfl (q := 181) rfl ?_
    refine Jvm.OwnW.iload O38 at_181 rfl (q := 183) rfl ?_
    refine Jvm.OwnW.iasA O38 at_183 V_a34 (i := 4) rfl (by decide) (Or.inr N34) (q := 184) rfl ?_
    intro T39 h39 O39 W39
    have V_a34 : Ar Z h39 a34 .int 7 (lf [(.int p5), (.int p5), (.int p5), (.int p5), (.int p5), (.int (0 : Int32)), (.int (0 : Int32))]) := V_a34.setL W39 (by decide) (Nat.le_of_ble_eq_true rfl)
    have V_a1 := V_a1.other W39 ne_a1_a34
    have V_a9 := V_a9.other W39 ne_a9_a34
    have V_a14 := V_a14.other W39 ne_a14_a34
    have V_a22 := V_a22.other W39 ne_a22_a34
    have V_a30 := V_a30.other W39 ne_a30_a34
    refine Jvm.OwnW.dup O39 at_184 rfl (q := 185) rfl ?_
    refine Jvm.OwnW.iconst O39 at_185 (r := (5 : Int32)) rfl (q := 186) rfl ?_
    refine Jvm.OwnW.iload O39 at_186 rfl (q := 188) rfl ?_
    refine Jvm.OwnW.iasA O39 at_188 V_a34 (i := 5) rfl (by decide) (Or.inr N34) (q := 189) rfl ?_
    intro T40 h40 O40 W40
    have V_a34 : Ar Z h40 a34 .int 7 (lf [(.int p5), (.int p5), (.int p5), (.int p5), (.int p5), (.int p5), (.int (0 : Int32))]) := V_a34.setL W40 (by decide) (Nat.le_of_ble_eq_true rfl)
    have V_a1 := V_a1.other W40 ne_a1_a34
    have V_a9 := V_a9.other W40 ne_a9_a34
    have V_a14 := V_a14.other W40 ne_a14_a34
    have V_a22 := V_a22.other W40 ne_a22_a34
    have V_a30 := V_a30.other W40 ne_a30_a34
    refine Jvm.OwnW.dup O40 at_189 rfl (q := 190) rfl ?_
    refine Jvm.OwnW.bipush O40 at_190 (r := (6 : Int32)) rfl (q := 192) rfl ?_
    refine Jvm.OwnW.iload O40 at_192 rfl (q := 194) rfl ?_
    refine Jvm.OwnW.iasA O40 at_194 V_a34 (i := 6) rfl (by decide) (Or.inr N34) (q := 195) rfl ?_
    intro T41 h41 O41 W41
    have V_a34 : Ar Z h41 a34 .int 7 (lf [(.int p5), (.int p5), (.int p5), (.int p5), (.int p5), (.int p5), (.int p5)]) := V_a34.setL W41 (by decide) (Nat.le_of_ble_eq_true rfl)
    have V_a1 := V_a1.other W41 ne_a1_a34
    have V_a9 := V_a9.other W41 ne_a9_a34
    have V_a14 := V_a14.other W41 ne_a14_a34
    have V_a22 := V_a22.other W41 ne_a22_a34
    have V_a30 := V_a30.other W41 ne_a30_a34
    refine Jvm.OwnW.astore O41 at_195 rfl (L' := #[.val (.int p0), .val (.int p1), .val (.int p2), .val (.int p3), .val (.int p4), .val (.int p5), .val (.int (0 : Int32)), .val (.ref a1), .val (.ref a9), .val (.ref a14), .val (.ref a22), .val (.ref a30), .val (.ref a34), .unset, .unset, .unset, .unset, .unset, .unset, .unset, .unset, .unset, .unset, .unset, .unset]) rfl (q := 197) rfl ?_
    refine Jvm.OwnW.newO O41 at_197 (hw _ (List.mem_of_getElem? (i := 2) rfl)) (hw _ (List.mem_of_getElem? (i := 3) rfl)) (hw _ (List.mem_of_getElem? (i := 4) rfl)) (c2 := 7) (s2 := 39) rfl rfl (by decide) (by decide) (q := 200) rfl ?_
    intro a42 T42 h42 g42 N42 O42 X42 E_a42 D42
    have ne_a1_a42 : a1 ≠ a42 := Nat.ne_of_lt (Nat.lt_of_lt_of_le V_a1.lt (Nat.le_of_eq g42.symm))
    have ne_a9_a42 : a9 ≠ a42 := Nat.ne_of_lt (Nat.lt_of_lt_of_le V_a9.lt (Nat.le_of_eq g42.symm))
    have ne_a14_a42 : a14 ≠ a42 := Nat.ne_of_lt (Nat.lt_of_lt_of_le V_a14.lt (Nat.le_of_eq g42.symm))
    have ne_a22_a42 : a22 ≠ a42 := Nat.ne_of_lt (Nat.lt_of_lt_of_le V_a22.lt (Nat.le_of_eq g42.symm))
    have ne_a30_a42 : a30 ≠ a42 := Nat.ne_of_lt (Nat.lt_of_lt_of_le V_a30.lt (Nat.le_of_eq g42.symm))
    have ne_a34_a42 : a34 ≠ a42 := Nat.ne_of_lt (Nat.lt_of_lt_of_le V_a34.lt (Nat.le_of_eq g42.symm))
    have V_a1 := V_a1.ext X42
    have V_a9 := V_a9.ext X42
    have V_a14 := V_a14.ext X42
    have V_a22 := V_a22.ext X42
    have V_a30 := V_a30.ext X42
    have V_a34 := V_a34.ext X42
    have F_routes_a42 : Fld Z h42 a42 "com/example/bidwright/bidwright/game/ClientOptions$RouteList" "routes" "[I" .null := D42 (Or.inr (hw _ (List.mem_of_getElem? (i := 17) rfl))) (ty := (.array .int)) (by decide)
    have F_stayStarts_a42 : Fld Z h42 a42 "com/example/bidwright/bidwright/game/ClientOptions$RouteList" "stayStarts" "[I" .null := D42 (Or.inr (hw _ (List.mem_of_getElem? (i := 19) rfl))) (ty := (.array .int)) (by decide)
    have F_extended_a42 : Fld Z h42 a42 "com/example/bidwright/bidwright/game/ClientOptions$RouteList" "extended" "[I" .null := D42 (Or.inr (hw _ (List.mem_of_getElem? (i := 21) rfl))) (ty := (.array .int)) (by decide)
    have F_added_a42 : Fld Z h42 a42 "com/example/bidwright/bidwright/game/ClientOptions$RouteList" "added" "[I" .null := D42 (Or.inr (hw _ (List.mem_of_getElem? (i := 23) rfl))) (ty := (.array .int)) (by decide)
    refine Jvm.OwnW.dup O42 at_200 rfl (q := 201) rfl ?_
    refine Jvm.OwnW.aload O42 at_201 rfl rfl (q := 203) rfl ?_
    refine Jvm.OwnW.aload O42 at_203 rfl rfl (q := 205) rfl ?_
    refine Jvm.OwnW.aload O42 at_205 rfl rfl (q := 207) rfl ?_
    refine Jvm.OwnW.aload O42 at_207 rfl rfl (q := 209) rfl ?_
    refine Jvm.OwnW.callI O42 (y := (⟨"com/example/bidwright/bidwright/game/ClientOptions$RouteList", "<init>", "([I[I[I[I)V"⟩ : MethodName)) (a := a42) (argsL := [(.ref a1), (.ref a9), (.ref a14), (.ref a22)]) (rest := [(.ref a42)]) at_209 rfl (hw _ (List.mem_of_getElem? (i := 5) rfl)) (hw _ (List.mem_of_getElem? (i := 6) rfl)) (hw _ (List.mem_of_getElem? (i := 4) rfl)) (hw _ (List.mem_of_getElem? (i := 7) rfl)) (by decide) (rm_i l Z a0 hw a42 a1 a9 a14 a22 h42 E_a42 F_routes_a42 F_stayStarts_a42 F_extended_a42 F_added_a42) rfl pd_1 rfl (hst := rfl) (W := 1) (Nat.le_of_eq rfl) (by decide) (by decide) (c2 := 7) (s2 := 39) rfl rfl (by decide) (by decide) (allS (Or.inr N42) all0) (q := 212) rfl ?_
    intro v43 T43 h43 O43 K43 q43
    obtain ⟨rfl, F_routes_a42, F_stayStarts_a42, F_extended_a42, F_added_a42⟩ := q43
    have V_a1 := V_a1.keep K43 (ninS ne_a1_a42 nin0)
    have V_a9 := V_a9.keep K43 (ninS ne_a9_a42 nin0)
    have V_a14 := V_a14.keep K43 (ninS ne_a14_a42 nin0)
    have V_a22 := V_a22.keep K43 (ninS ne_a22_a42 nin0)
    have V_a30 := V_a30.keep K43 (ninS ne_a30_a42 nin0)
    have V_a34 := V_a34.keep K43 (ninS ne_a34_a42 nin0)
    have E_a42 := E_a42.keep K43
    show Go C _ _ _ _ (T43.setTop (mkF C.m 212 #[.val (.int p0), .val (.int p1), .val (.int p2), .val (.int p3), .val (.int p4), .val (.int p5), .val (.int (0 : Int32)), .val (.ref a1), .val (.ref a9), .val (.ref a14), .val (.ref a22), .val (.ref a30), .val (.ref a34), .unset, .unset, .unset, .unset, .unset, .unset, .unset, .unset, .unset, .unset, .unset, .unset] [(.ref a42)]))
    refine Jvm.OwnW.astore O43 at_212 rfl (L' := #[.val (.int p0), .val (.int p1), .val (.int p2), .val (.int p3), .val (.int p4), .val (.int p5), .val (.int (0 : Int32)), .val (.ref a1), .val (.ref a9), .val (.ref a14), .val (.ref a22), .val (.ref a30), .val (.ref a34), .val (.ref a42), .unset, .unset, .unset, .unset, .unset, .unset, .unset, .unset, .unset, .unset, .unset]) rfl (q := 214) rfl ?_
    refine Jvm.OwnW.aload O43 at_214 rfl rfl (q := 216) rfl ?_
    refine Jvm.OwnW.iload O43 at_216 rfl (q := 218) rfl ?_
    refine Jvm.OwnW.iloadN O43 at_218 rfl (q := 219) rfl ?_
    refine Jvm.OwnW.aload O43 at_219 rfl rfl (q := 221) rfl ?_
    refine Jvm.OwnW.aload O43 at_221 rfl rfl (q := 223) rfl ?_
    refine Jvm.OwnW.callV O43 (y := (⟨"com/example/bidwright/bidwright/game/ClientOptions$RouteList", "putUtilities", "(II[I[I)I"⟩ : MethodName)) (z := (⟨"com/example/bidwright/bidwright/game/ClientOptions$RouteList", "putUtilities", "(II[I[I)I"⟩ : MethodName)) (a := a42) (argsL := [(.int (0 : Int32)), (.int p1), (.ref a30), (.ref a34)]) (rest := []) at_223 (hw _ (List.mem_of_getElem? (i := 24) rfl)) (hw _ (List.mem_of_getElem? (i := 25) rfl)) (hw _ (List.mem_of_getElem? (i := 27) rfl)) rfl (hw _ (List.mem_of_getElem? (i := 26) rfl)) (hw _ (List.mem_of_getElem? (i := 4) rfl)) (hw _ (List.mem_of_getElem? (i := 28) rfl)) (by decide) (rm_u0 l Z a0 hw a42 p1 a30 a34 a9 a14 a22 p2 p3 p4 p5 h43 E_a42 F_stayStarts_a42 F_extended_a42 F_added_a42 V_a9 V_a14 V_a22 V_a30 V_a34 (Ne.symm ne_a34_a42) ne_a9_a34 ne_a14_a34 ne_a22_a34 ne_a30_a34) E_a42 rfl pd_2 rfl (hst := rfl) (W := 0) (Nat.le_of_eq rfl) (by decide) (by decide) (c2 := 7) (s2 := 39) rfl rfl (by decide) (by decide) (allS (Or.inr N34) all0) (q := 226) rfl ?_
    intro v44 T44 h44 O44 K44 q44
    obtain ⟨rfl, V_a34⟩ := q44
    have V_a1 := V_a1.keep K44 (ninS ne_a1_a34 nin0)
    have V_a9 := V_a9.keep K44 (ninS ne_a9_a34 nin0)
    have V_a14 := V_a14.keep K44 (ninS ne_a14_a34 nin0)
    have V_a22 := V_a22.keep K44 (ninS ne_a22_a34 nin0)
    have V_a30 := V_a30.keep K44 (ninS ne_a30_a34 nin0)
    have E_a42 := E_a42.keep K44
    have F_routes_a42 := F_routes_a42.keep K44 (ninS (Ne.symm ne_a34_a42) nin0)
    have F_stayStarts_a42 := F_stayStarts_a42.keep K44 (ninS (Ne.symm ne_a34_a42) nin0)
    have F_extended_a42 := F_extended_a42.keep K44 (ninS (Ne.symm ne_a34_a42) nin0)
    have F_added_a42 := F_added_a42.keep K44 (ninS (Ne.symm ne_a34_a42) nin0)
    show Go C _ _ _ _ (T44.setTop (mkF C.m 226 #[.val (.int p0), .val (.int p1), .val (.int p2), .val (.int p3), .val (.int p4), .val (.int p5), .val (.int (0 : Int32)), .val (.ref a1), .val (.ref a9), .val (.ref a14), .val (.ref a22), .val (.ref a30), .val (.ref a34), .val (.ref a42), .unset, .unset, .unset, .unset, .unset, .unset, .unset, .unset, .unset, .unset, .unset] [(.int (fn_m (fn_m (fn_m (fn_m (0 : Int32) ((100 : Int32) * p1)) (((100 : Int32) * p1) + ((100 : Int32) * p2))) ((((100 : Int32) * p1) + ((100 : Int32) * p2)) + ((100 : Int32) * p3))) (((100 : Int32) * p1) + ((100 : Int32) * p4))))]))
    refine Jvm.OwnW.istore O44 at_226 (L' := #[.val (.int p0), .val (.int p1), .val (.int p2), .val (.int p3), .val (.int p4), .val (.int p5), .val (.int (0 : Int32)), .val (.ref a1), .val (.ref a9), .val (.ref a14), .val (.ref a22), .val (.ref a30), .val (.ref a34), .val (.ref a42), .val (.int (fn_m (fn_m (fn_m (fn_m (0 : Int32) ((100 : Int32) * p1)) (((100 : Int32) * p1) + ((100 : Int32) * p2))) ((((100 : Int32) * p1) + ((100 : Int32) * p2)) + ((100 : Int32) * p3))) (((100 : Int32) * p1) + ((100 : Int32) * p4)))), .unset, .unset, .unset, .unset, .unset, .unset, .unset, .unset, .unset, .unset]) rfl (q := 228) rfl ?_
    refine Jvm.OwnW.bipush O44 at_228 (r := (100 : Int32)) rfl (q := 230) rfl ?_
    refine Jvm.OwnW.iloadN O44 at_230 rfl (q := 231) rfl ?_
    refine Jvm.OwnW.imul O44 at_231 rfl (q := 232) rfl ?_
    refine Jvm.OwnW.istore O44 at_232 (L' := #[.val (.int p0), .val (.int p1), .val (.int p2), .val (.int p3), .val (.int p4), .val (.int p5), .val (.int (0 : Int32)), .val (.ref a1), .val (.ref a9), .val (.ref a14), .val (.ref a22), .val (.ref a30), .val (.ref a34), .val (.ref a42), .val (.int (fn_m (fn_m (fn_m (fn_m (0 : Int32) ((100 : Int32) * p1)) (((100 : Int32) * p1) + ((100 : Int32) * p2))) ((((100 : Int32) * p1) + ((100 : Int32) * p2)) + ((100 : Int32) * p3))) (((100 : Int32) * p1) + ((100 : Int32) * p4)))), .val (.int ((100 : Int32) * p1)), .unset, .unset, .unset, .unset, .unset, .unset, .unset, .unset, .unset]) rfl (q := 234) rfl ?_
    refine Jvm.OwnW.iload O44 at_234 rfl (q := 236) rfl ?_
    refine Jvm.OwnW.istore O44 at_236 (L' := #[.val (.int p0), .val (.int p1), .val (.int p2), .val (.int p3), .val (.int p4), .val (.int p5), .val (.int (0 : Int32)), .val (.ref a1), .val (.ref a9), .val (.ref a14), .val (.ref a22), .val (.ref a30), .val (.ref a34), .val (.ref a42), .val (.int (fn_m (fn_m (fn_m (fn_m (0 : Int32) ((100 : Int32) * p1)) (((100 : Int32) * p1) + ((100 : Int32) * p2))) ((((100 : Int32) * p1) + ((100 : Int32) * p2)) + ((100 : Int32) * p3))) (((100 : Int32) * p1) + ((100 : Int32) * p4)))), .val (.int ((100 : Int32) * p1)), .val (.int p5), .unset, .unset, .unset, .unset, .unset, .unset, .unset, .unset]) rfl (q := 238) rfl ?_
    refine Jvm.OwnW.iload O44 at_238 rfl (q := 240) rfl ?_
    refine Jvm.OwnW.istore O44 at_240 (L' := #[.val (.int p0), .val (.int p1), .val (.int p2), .val (.int p3), .val (.int p4), .val (.int p5), .val (.int (0 : Int32)), .val (.ref a1), .val (.ref a9), .val (.ref a14), .val (.ref a22), .val (.ref a30), .val (.ref a34), .val (.ref a42), .val (.int (fn_m (fn_m (fn_m (fn_m (0 : Int32) ((100 : Int32) * p1)) (((100 : Int32) * p1) + ((100 : Int32) * p2))) ((((100 : Int32) * p1) + ((100 : Int32) * p2)) + ((100 : Int32) * p3))) (((100 : Int32) * p1) + ((100 : Int32) * p4)))), .val (.int ((100 : Int32) * p1)), .val (.int p5), .val (.int p5), .unset, .unset, .unset, .unset, .unset, .unset, .unset]) rfl (q := 242) rfl ?_
    refine Jvm.OwnW.iload O44 at_242 rfl (q := 244) rfl ?_
    refine Jvm.OwnW.istore O44 at_244 (L' := #[.val (.int p0), .val (.int p1), .val (.int p2), .val (.int p3), .val (.int p4), .val (.int p5), .val (.int (0 : Int32)), .val (.ref a1), .val (.ref a9), .val (.ref a14), .val (.ref a22), .val (.ref a30), .val (.ref a34), .val (.ref a42), .val (.int (fn_m (fn_m (fn_m (fn_m (0 : Int32) ((100 : Int32) * p1)) (((100 : Int32) * p1) + ((100 : Int32) * p2))) ((((100 : Int32) * p1) + ((100 : Int32) * p2)) + ((100 : Int32) * p3))) (((100 : Int32) * p1) + ((100 : Int32) * p4)))), .val (.int ((100 : Int32) * p1)), .val (.int p5), .val (.int p5), .val (.int p5), .unset, .unset, .unset, .unset, .unset, .unset]) rfl (q := 246) rfl ?_
    refine Jvm.OwnW.iload O44 at_246 rfl (q := 248) rfl ?_
    refine Jvm.OwnW.istore O44 at_248 (L' := #[.val (.int p0), .val (.int p1), .val (.int p2), .val (.int p3), .val (.int p4), .val (.int p5), .val (.int (0 : Int32)), .val (.ref a1), .val (.ref a9), .val (.ref a14), .val (.ref a22), .val (.ref a30), .val (.ref a34), .val (.ref a42), .val (.int (fn_m (fn_m (fn_m (fn_m (0 : Int32) ((100 : Int32) * p1)) (((100 : Int32) * p1) + ((100 : Int32) * p2))) ((((100 : Int32) * p1) + ((100 : Int32) * p2)) + ((100 : Int32) * p3))) (((100 : Int32) * p1) + ((100 : Int32) * p4)))), .val (.int ((100 : Int32) * p1)), .val (.int p5), .val (.int p5), .val (.int p5), .val (.int p5), .unset, .unset, .unset, .unset, .unset]) rfl (q := 250) rfl ?_
    refine Jvm.OwnW.iload O44 at_250 rfl (q := 252) rfl ?_
    refine Jvm.OwnW.istore O44 at_252 (L' := #[.val (.int p0), .val (.int p1), .val (.int p2), .val (.int p3), .val (.int p4), .val (.int p5), .val (.int (0 : Int32)), .val (.ref a1), .val (.ref a9), .val (.ref a14), .val (.ref a22), .val (.ref a30), .val (.ref a34), .val (.ref a42), .val (.int (fn_m (fn_m (fn_m (fn_m (0 : Int32) ((100 : Int32) * p1)) (((100 : Int32) * p1) + ((100 : Int32) * p2))) ((((100 : Int32) * p1) + ((100 : Int32) * p2)) + ((100 : Int32) * p3))) (((100 : Int32) * p1) + ((100 : Int32) * p4)))), .val (.int ((100 : Int32) * p1)), .val (.int p5), .val (.int p5), .val (.int p5), .val (.int p5), .val (.int p5), .unset, .unset, .unset, .unset]) rfl (q := 254) rfl ?_
    refine Jvm.OwnW.iload O44 at_254 rfl (q := 256) rfl ?_
    refine Jvm.OwnW.istore O44 at_256 (L' := #[.val (.int p0), .val (.int p1), .val (.int p2), .val (.int p3), .val (.int p4), .val (.int p5), .val (.int (0 : Int32)), .val (.ref a1), .val (.ref a9), .val (.ref a14), .val (.ref a22), .val (.ref a30), .val (.ref a34), .val (.ref a42), .val (.int (fn_m (fn_m (fn_m (fn_m (0 : Int32) ((100 : Int32) * p1)) (((100 : Int32) * p1) + ((100 : Int32) * p2))) ((((100 : Int32) * p1) + ((100 : Int32) * p2)) + ((100 : Int32) * p3))) (((100 : Int32) * p1) + ((100 : Int32) * p4)))), .val (.int ((100 : Int32) * p1)), .val (.int p5), .val (.int p5), .val (.int p5), .val (.int p5), .val (.int p5), .val (.int p5), .unset, .unset, .unset]) rfl (q := 258) rfl ?_
    refine Jvm.OwnW.iconst O44 at_258 (r := (0 : Int32)) rfl (q := 259) rfl ?_
    refine Jvm.OwnW.istore O44 at_259 (L' := #[.val (.int p0), .val (.int p1), .val (.int p2), .val (.int p3), .val (.int p4), .val (.int p5), .val (.int (0 : Int32)), .val (.ref a1), .val (.ref a9), .val (.ref a14), .val (.ref a22), .val (.ref a30), .val (.ref a34), .val (.ref a42), .val (.int (fn_m (fn_m (fn_m (fn_m (0 : Int32) ((100 : Int32) * p1)) (((100 : Int32) * p1) + ((100 : Int32) * p2))) ((((100 : Int32) * p1) + ((100 : Int32) * p2)) + ((100 : Int32) * p3))) (((100 : Int32) * p1) + ((100 : Int32) * p4)))), .val (.int ((100 : Int32) * p1)), .val (.int p5), .val (.int p5), .val (.int p5), .val (.int p5), .val (.int p5), .val (.int p5), .val (.int (0 : Int32)), .unset, .unset]) rfl (q := 261) rfl ?_
    refine Jvm.OwnW.iload O44 at_261 rfl (q := 263) rfl ?_
    refine Jvm.OwnW.ifNo O44 at_263 (teq0 (show (0 : Int32) = (0 : Int32) from (by decide))).2 (q := 266) rfl ?_
    refine Jvm.OwnW.iload O44 at_266 rfl (q := 268) rfl ?_
    refine Jvm.OwnW.istore O44 at_268 (L' := #[.val (.int p0), .val (.int p1), .val (.int p2), .val (.int p3), .val (.int p4), .val (.int p5), .val (.int (0 : Int32)), .val (.ref a1), .val (.ref a9), .val (.ref a14), .val (.ref a22), .val (.ref a30), .val (.ref a34), .val (.ref a42), .val (.int (fn_m (fn_m (fn_m (fn_m (0 : Int32) ((100 : Int32) * p1)) (((100 : Int32) * p1) + ((100 : Int32) * p2))) ((((100 : Int32) * p1) + ((100 : Int32) * p2)) + ((100 : Int32) * p3))) (((100 : Int32) * p1) + ((100 : Int32) * p4)))), .val (.int ((100 : Int32) * p1)), .val (.int ((100 : Int32) * p1)), .val (.int p5), .val (.int p5), .val (.int p5), .val (.int p5), .val (.int p5), .val (.int (0 : Int32)), .unset, .unset]) rfl (q := 270) rfl ?_
    refine Jvm.OwnW.iload O44 at_270 rfl (q := 272) rfl ?_
    refine Jvm.OwnW.bipush O44 at_272 (r := (100 : Int32)) rfl (q := 274) rfl ?_
    refine Jvm.OwnW.iloadN O44 at_274 rfl (q := 275) rfl ?_
    refine Jvm.OwnW.imul O44 at_275 rfl (q := 276) rfl ?_
    refine Jvm.OwnW.iadd O44 at_276 rfl (q := 277) rfl ?_
    refine Jvm.OwnW.istore O44 at_277 (L' := #[.val (.int p0), .val (.int p1), .val (.int p2), .val (.int p3), .val (.int p4), .val (.int p5), .val (.int (0 : Int32)), .val (.ref a1), .val (.ref a9), .val (.ref a14), .val (.ref a22), .val (.ref a30), .val (.ref a34), .val (.ref a42), .val (.int (fn_m (fn_m (fn_m (fn_m (0 : Int32) ((100 : Int32) * p1)) (((100 : Int32) * p1) + ((100 : Int32) * p2))) ((((100 : Int32) * p1) + ((100 : Int32) * p2)) + ((100 : Int32) * p3))) (((100 : Int32) * p1) + ((100 : Int32) * p4)))), .val (.int ((100 : Int32) * p1)), .val (.int ((100 : Int32) * p1)), .val (.int (((100 : Int32) * p1) + ((100 : Int32) * p2))), .val (.int p5), .val (.int p5), .val (.int p5), .val (.int p5), .val (.int (0 : Int32)), .unset, .unset]) rfl (q := 279) rfl ?_
    refine Jvm.OwnW.iload O44 at_279 rfl (q := 281) rfl ?_
    refine Jvm.OwnW.bipush O44 at_281 (r := (100 : Int32)) rfl (q := 283) rfl ?_
    refine Jvm.OwnW.iloadN O44 at_283 rfl (q := 284) rfl ?_
    refine Jvm.OwnW.imul O44 at_284 rfl (q := 285) rfl ?_
    refine Jvm.OwnW.iadd O44 at_285 rfl (q := 286) rfl ?_
    refine Jvm.OwnW.istore O44 at_286 (L' := #[.val (.int p0), .val (.int p1), .val (.int p2), .val (.int p3), .val (.int p4), .val (.int p5), .val (.int (0 : Int32)), .val (.ref a1), .val (.ref a9), .val (.ref a14), .val (.ref a22), .val (.ref a30), .val (.ref a34), .val (.ref a42), .val (.int (fn_m (fn_m (fn_m (fn_m (0 : Int32) ((100 : Int32) * p1)) (((100 : Int32) * p1) + ((100 : Int32) * p2))) ((((100 : Int32) * p1) + ((100 : Int32) * p2)) + ((100 : Int32) * p3))) (((100 : Int32) * p1) + ((100 : Int32) * p4)))), .val (.int ((100 : Int32) * p1)), .val (.int ((100 : Int32) * p1)), .val (.int (((100 : Int32) * p1) + ((100 : Int32) * p2))), .val (.int ((((100 : Int32) * p1) + ((100 : Int32) * p2)) + ((100 : Int32) * p3))), .val (.int p5), .val (.int p5), .val (.int p5), .val (.int (0 : Int32)), .unset, .unset]) rfl (q := 288) rfl ?_
    refine Jvm.OwnW.iload O44 at_288 rfl (q := 290) rfl ?_
    refine Jvm.OwnW.bipush O44 at_290 (r := (100 : Int32)) rfl (q := 292) rfl ?_
    refine Jvm.OwnW.iload O44 at_292 rfl (q := 294) rfl ?_
    refine Jvm.OwnW.imul O44 at_294 rfl (q := 295) rfl ?_
    refine Jvm.OwnW.iadd O44 at_295 rfl (q := 296) rfl ?_
    refine Jvm.OwnW.istore O44 at_296 (L' := #[.val (.int p0), .val (.int p1), .val (.int p2), .val (.int p3), .val (.int p4), .val (.int p5), .val (.int (0 : Int32)), .val (.ref a1), .val (.ref a9), .val (.ref a14), .val (.ref a22), .val (.ref a30), .val (.ref a34), .val (.ref a42), .val (.int (fn_m (fn_m (fn_m (fn_m (0 : Int32) ((100 : Int32) * p1)) (((100 : Int32) * p1) + ((100 : Int32) * p2))) ((((100 : Int32) * p1) + ((100 : Int32) * p2)) + ((100 : Int32) * p3))) (((100 : Int32) * p1) + ((100 : Int32) * p4)))), .val (.int ((100 : Int32) * p1)), .val (.int ((100 : Int32) * p1)), .val (.int (((100 : Int32) * p1) + ((100 : Int32) * p2))), .val (.int ((((100 : Int32) * p1) + ((100 : Int32) * p2)) + ((100 : Int32) * p3))), .val (.int (((100 : Int32) * p1) + ((100 : Int32) * p4))), .val (.int p5), .val (.int p5), .val (.int (0 : Int32)), .unset, .unset]) rfl (q := 298) rfl ?_
    refine Jvm.OwnW.iconst O44 at_298 (r := (0 : Int32)) rfl (q := 299) rfl ?_
    refine Jvm.OwnW.iload O44 at_299 rfl (q := 301) rfl ?_
    refine Jvm.OwnW.callS0 O44 (y := (⟨"java/lang/Math", "max", "(II)I"⟩ : MethodName)) (argsL := [(.int (0 : Int32)), (.int ((100 : Int32) * p1))]) (rest := []) at_301 (hw _ (List.mem_of_getElem? (i := 29) rfl)) (hw _ (List.mem_of_getElem? (i := 30) rfl)) (hw _ (List.mem_of_getElem? (i := 31) rfl)) (hw _ (List.mem_of_getElem? (i := 32) rfl)) (by decide) (rm_m l Z a0 hw (0 : Int32) ((100 : Int32) * p1) h44) rfl pd_3 rfl (hst := rfl) (W := 0) (Nat.le_of_eq rfl) (by decide) (by decide) (c2 := 7) (s2 := 39) rfl rfl (by decide) (by decide) rfl rfl (q := 304) rfl ?_
    intro v45 T45 O45 q45
    obtain rfl := q45
    show Go C _ _ _ _ (T45.setTop (mkF C.m 304 #[.val (.int p0), .val (.int p1), .val (.int p2), .val (.int p3), .val (.int p4), .val (.int p5), .val (.int (0 : Int32)), .val (.ref a1), .val (.ref a9), .val (.ref a14), .val (.ref a22), .val (.ref a30), .val (.ref a34), .val (.ref a42), .val (.int (fn_m (fn_m (fn_m (fn_m (0 : Int32) ((100 : Int32) * p1)) (((100 : Int32) * p1) + ((100 : Int32) * p2))) ((((100 : Int32) * p1) + ((100 : Int32) * p2)) + ((100 : Int32) * p3))) (((100 : Int32) * p1) + ((100 : Int32) * p4)))), .val (.int ((100 : Int32) * p1)), .val (.int ((100 : Int32) * p1)), .val (.int (((100 : Int32) * p1) + ((100 : Int32) * p2))), .val (.int ((((100 : Int32) * p1) + ((100 : Int32) * p2)) + ((100 : Int32) * p3))), .val (.int (((100 : Int32) * p1) + ((100 : Int32) * p4))), .val (.int p5), .val (.int p5), .val (.int (0 : Int32)), .unset, .unset] [(.int (fn_m (0 : Int32) ((100 : Int32) * p1)))]))
    refine Jvm.OwnW.iload O45 at_304 rfl (q := 306) rfl ?_
    refine Jvm.OwnW.callS0 O45 (y := (⟨"java/lang/Math", "max", "(II)I"⟩ : MethodName)) (argsL := [(.int (fn_m (0 : Int32) ((100 : Int32) * p1))), (.int (((100 : Int32) * p1) + ((100 : Int32) * p2)))]) (rest := []) at_306 (hw _ (List.mem_of_getElem? (i := 29) rfl)) (hw _ (List.mem_of_getElem? (i := 30) rfl)) (hw _ (List.mem_of_getElem? (i := 31) rfl)) (hw _ (List.mem_of_getElem? (i := 32) rfl)) (by decide) (rm_m l Z a0 hw (fn_m (0 : Int32) ((100 : Int32) * p1)) (((100 : Int32) * p1) + ((100 : Int32) * p2)) h44) rfl pd_3 rfl (hst := rfl) (W := 0) (Nat.le_of_eq rfl) (by decide) (by decide) (c2 := 7) (s2 := 39) rfl rfl (by decide) (by decide) rfl rfl (q := 309) rfl ?_
    intro v46 T46 O46 q46
    obtain rfl := q46
    show Go C _ _ _ _ (T46.setTop (mkF C.m 309 #[.val (.int p0), .val (.int p1), .val (.int p2), .val (.int p3), .val (.int p4), .val (.int p5), .val (.int (0 : Int32)), .val (.ref a1), .val (.ref a9), .val (.ref a14), .val (.ref a22), .val (.ref a30), .val (.ref a34), .val (.ref a42), .val (.int (fn_m (fn_m (fn_m (fn_m (0 : Int32) ((100 : Int32) * p1)) (((100 : Int32) * p1) + ((100 : Int32) * p2))) ((((100 : Int32) * p1) + ((100 : Int32) * p2)) + ((100 : Int32) * p3))) (((100 : Int32) * p1) + ((100 : Int32) * p4)))), .val (.int ((100 : Int32) * p1)), .val (.int ((100 : Int32) * p1)), .val (.int (((100 : Int32) * p1) + ((100 : Int32) * p2))), .val (.int ((((100 : Int32) * p1) + ((100 : Int32) * p2)) + ((100 : Int32) * p3))), .val (.int (((100 : Int32) * p1) + ((100 : Int32) * p4))), .val (.int p5), .val (.int p5), .val (.int (0 : Int32)), .unset, .unset] [(.int (fn_m (fn_m (0 : Int32) ((100 : Int32) * p1)) (((100 : Int32) * p1) + ((100 : Int32) * p2))))]))
    refine Jvm.OwnW.iload O46 at_309 rfl (q := 311) rfl ?_
    refine Jvm.OwnW.callS0 O46 (y := (⟨"java/lang/Math", "max", "(II)I"⟩ : MethodName)) (argsL := [(.int (fn_m (fn_m (0 : Int32) ((100 : Int32) * p1)) (((100 : Int32) * p1) + ((100 : Int32) * p2)))), (.int ((((100 : Int32) * p1) + ((100 : Int32) * p2)) + ((100 : Int32) * p3)))]) (rest := []) at_311 (hw _ (List.mem_of_getElem? (i := 29) rfl)) (hw _ (List.mem_of_getElem? (i := 30) rfl)) (hw _ (List.mem_of_getElem? (i := 31) rfl)) (hw _ (List.mem_of_getElem? (i := 32) rfl)) (by decide) (rm_m l Z a0 hw (fn_m (fn_m (0 : Int32) ((100 : Int32) * p1)) (((100 : Int32) * p1) + ((100 : Int32) * p2))) ((((100 : Int32) * p1) + ((100 : Int32) * p2)) + ((100 : Int32) * p3)) h44) rfl pd_3 rfl (hst := rfl) (W := 0) (Nat.le_of_eq rfl) (by decide) (by decide) (c2 := 7) (s2 := 39) rfl rfl (by decide) (by decide) rfl rfl (q := 314) rfl ?_
    intro v47 T47 O47 q47
    obtain rfl := q47
    show Go C _ _ _ _ (T47.setTop (mkF C.m 314 #[.val (.int p0), .val (.int p1), .val (.int p2), .val (.int p3), .val (.int p4), .val (.int p5), .val (.int (0 : Int32)), .val (.ref a1), .val (.ref a9), .val (.ref a14), .val (.ref a22), .val (.ref a30), .val (.ref a34), .val (.ref a42), .val (.int (fn_m (fn_m (fn_m (fn_m (0 : Int32) ((100 : Int32) * p1)) (((100 : Int32) * p1) + ((100 : Int32) * p2))) ((((100 : Int32) * p1) + ((100 : Int32) * p2)) + ((100 : Int32) * p3))) (((100 : Int32) * p1) + ((100 : Int32) * p4)))), .val (.int ((100 : Int32) * p1)), .val (.int ((100 : Int32) * p1)), .val (.int (((100 : Int32) * p1) + ((100 : Int32) * p2))), .val (.int ((((100 : Int32) * p1) + ((100 : Int32) * p2)) + ((100 : Int32) * p3))), .val (.int (((100 : Int32) * p1) + ((100 : Int32) * p4))), .val (.int p5), .val (.int p5), .val (.int (0 : Int32)), .unset, .unset] [(.int (fn_m (fn_m (fn_m (0 : Int32) ((100 : Int32) * p1)) (((100 : Int32) * p1) + ((100 : Int32) * p2))) ((((100 : Int32) * p1) + ((100 : Int32) * p2)) + ((100 : Int32) * p3))))]))
    refine Jvm.OwnW.iload O47 at_314 rfl (q := 316) rfl ?_
    refine Jvm.OwnW.callS0 O47 (y := (⟨"java/lang/Math", "max", "(II)I"⟩ : MethodName)) (argsL := [(.int (fn_m (fn_m (fn_m (0 : Int32) ((100 : Int32) * p1)) (((100 : Int32) * p1) + ((100 : Int32) * p2))) ((((100 : Int32) * p1) + ((100 : Int32) * p2)) + ((100 : Int32) * p3)))), (.int (((100 : Int32) * p1) + ((100 : Int32) * p4)))]) (rest := []) at_316 (hw _ (List.mem_of_getElem? (i := 29) rfl)) (hw _ (List.mem_of_getElem? (i := 30) rfl)) (hw _ (List.mem_of_getElem? (i := 31) rfl)) (hw _ (List.mem_of_getElem? (i := 32) rfl)) (by decide) (rm_m l Z a0 hw (fn_m (fn_m (fn_m (0 : Int32) ((100 : Int32) * p1)) (((100 : Int32) * p1) + ((100 : Int32) * p2))) ((((100 : Int32) * p1) + ((100 : Int32) * p2)) + ((100 : Int32) * p3))) (((100 : Int32) * p1) + ((100 : Int32) * p4)) h44) rfl pd_3 rfl (hst := rfl) (W := 0) (Nat.le_of_eq rfl) (by decide) (by decide) (c2 := 7) (s2 := 39) rfl rfl (by decide) (by decide) rfl rfl (q := 319) rfl ?_
    intro v48 T48 O48 q48
    obtain rfl := q48
    show Go C _ _ _ _ (T48.setTop (mkF C.m 319 #[.val (.int p0), .val (.int p1), .val (.int p2), .val (.int p3), .val (.int p4), .val (.int p5), .val (.int (0 : Int32)), .val (.ref a1), .val (.ref a9), .val (.ref a14), .val (.ref a22), .val (.ref a30), .val (.ref a34), .val (.ref a42), .val (.int (fn_m (fn_m (fn_m (fn_m (0 : Int32) ((100 : Int32) * p1)) (((100 : Int32) * p1) + ((100 : Int32) * p2))) ((((100 : Int32) * p1) + ((100 : Int32) * p2)) + ((100 : Int32) * p3))) (((100 : Int32) * p1) + ((100 : Int32) * p4)))), .val (.int ((100 : Int32) * p1)), .val (.int ((100 : Int32) * p1)), .val (.int (((100 : Int32) * p1) + ((100 : Int32) * p2))), .val (.int ((((100 : Int32) * p1) + ((100 : Int32) * p2)) + ((100 : Int32) * p3))), .val (.int (((100 : Int32) * p1) + ((100 : Int32) * p4))), .val (.int p5), .val (.int p5), .val (.int (0 : Int32)), .unset, .unset] [(.int (fn_m (fn_m (fn_m (fn_m (0 : Int32) ((100 : Int32) * p1)) (((100 : Int32) * p1) + ((100 : Int32) * p2))) ((((100 : Int32) * p1) + ((100 : Int32) * p2)) + ((100 : Int32) * p3))) (((100 : Int32) * p1) + ((100 : Int32) * p4))))]))
    refine Jvm.OwnW.istore O48 at_319 (L' := #[.val (.int p0), .val (.int p1), .val (.int p2), .val (.int p3), .val (.int p4), .val (.int p5), .val (.int (0 : Int32)), .val (.ref a1), .val (.ref a9), .val (.ref a14), .val (.ref a22), .val (.ref a30), .val (.ref a34), .val (.ref a42), .val (.int (fn_m (fn_m (fn_m (fn_m (0 : Int32) ((100 : Int32) * p1)) (((100 : Int32) * p1) + ((100 : Int32) * p2))) ((((100 : Int32) * p1) + ((100 : Int32) * p2)) + ((100 : Int32) * p3))) (((100 : Int32) * p1) + ((100 : Int32) * p4)))), .val (.int ((100 : Int32) * p1)), .val (.int ((100 : Int32) * p1)), .val (.int (((100 : Int32) * p1) + ((100 : Int32) * p2))), .val (.int ((((100 : Int32) * p1) + ((100 : Int32) * p2)) + ((100 : Int32) * p3))), .val (.int (((100 : Int32) * p1) + ((100 : Int32) * p4))), .val (.int p5), .val (.int p5), .val (.int (fn_m (fn_m (fn_m (fn_m (0 : Int32) ((100 : Int32) * p1)) (((100 : Int32) * p1) + ((100 : Int32) * p2))) ((((100 : Int32) * p1) + ((100 : Int32) * p2)) + ((100 : Int32) * p3))) (((100 : Int32) * p1) + ((100 : Int32) * p4)))), .unset, .unset]) rfl (q := 321) rfl ?_
    refine Jvm.OwnW.goto O48 at_321 (by decide) (q := 356) rfl ?_
    refine Jvm.OwnW.aload O48 at_356 rfl rfl (q := 358) rfl ?_
    refine Jvm.OwnW.iconst O48 at_358 (r := (0 : Int32)) rfl (q := 359) rfl ?_
    refine Jvm.OwnW.ialA O48 at_359 V_a34 (i := 0) rfl (by decide) (v := (.int ((100 : Int32) * p1))) rfl (q := 360) rfl ?_
    refine Jvm.OwnW.iload O48 at_360 rfl (q := 362) rfl ?_
    refine Jvm.OwnW.icmpNo O48 at_362 (teq (show ((100 : Int32) * p1) = ((100 : Int32) * p1) from rfl)).2 (q := 365) rfl ?_
    refine Jvm.OwnW.aload O48 at_365 rfl rfl (q := 367) rfl ?_
    refine Jvm.OwnW.iconst O48 at_367 (r := (1 : Int32)) rfl (q := 368) rfl ?_
    refine Jvm.OwnW.ialA O48 at_368 V_a34 (i := 1) rfl (by decide) (v := (.int (((100 : Int32) * p1) + ((100 : Int32) * p2)))) rfl (q := 369) rfl ?_
    refine Jvm.OwnW.iload O48 at_369 rfl (q := 371) rfl ?_
    refine Jvm.OwnW.icmpNo O48 at_371 (teq (show (((100 : Int32) * p1) + ((100 : Int32) * p2)) = (((100 : Int32) * p1) + ((100 : Int32) * p2)) from rfl)).2 (q := 374) rfl ?_
    refine Jvm.OwnW.aload O48 at_374 rfl rfl (q := 376) rfl ?_
    refine Jvm.OwnW.iconst O48 at_376 (r := (2 : Int32)) rfl (q := 377) rfl ?_
    refine Jvm.OwnW.ialA O48 at_377 V_a34 (i := 2) rfl (by decide) (v := (.int ((((100 : Int32) * p1) + ((100 : Int32) * p2)) + ((100 : Int32) * p3)))) rfl (q := 378) rfl ?_
    refine Jvm.OwnW.iload O48 at_378 rfl (q := 380) rfl ?_
    refine Jvm.OwnW.icmpNo O48 at_380 (teq (show ((((100 : Int32) * p1) + ((100 : Int32) * p2)) + ((100 : Int32) * p3)) = ((((100 : Int32) * p1) + ((100 : Int32) * p2)) + ((100 : Int32) * p3)) from rfl)).2 (q := 383) rfl ?_
    refine Jvm.OwnW.aload O48 at_383 rfl rfl (q := 385) rfl ?_
    refine Jvm.OwnW.iconst O48 at_385 (r := (3 : Int32)) rfl (q := 386) rfl ?_
    refine Jvm.OwnW.ialA O48 at_386 V_a34 (i := 3) rfl (by decide) (v := (.int (((100 : Int32) * p1) + ((100 : Int32) * p4)))) rfl (q := 387) rfl ?_
    refine Jvm.OwnW.iload O48 at_387 rfl (q := 389) rfl ?_
    refine Jvm.OwnW.icmpNo O48 at_389 (teq (show (((100 : Int32) * p1) + ((100 : Int32) * p4)) = (((100 : Int32) * p1) + ((100 : Int32) * p4)) from rfl)).2 (q := 392) rfl ?_
    refine Jvm.OwnW.aload O48 at_392 rfl rfl (q := 394) rfl ?_
    refine Jvm.OwnW.iconst O48 at_394 (r := (4 : Int32)) rfl (q := 395) rfl ?_
    refine Jvm.OwnW.ialA O48 at_395 V_a34 (i := 4) rfl (by decide) (v := (.int p5)) rfl (q := 396) rfl ?_
    refine Jvm.OwnW.iload O48 at_396 rfl (q := 398) rfl ?_
    refine Jvm.OwnW.icmpNo O48 at_398 (teq (show p5 = p5 from rfl)).2 (q := 401) rfl ?_
    refine Jvm.OwnW.aload O48 at_401 rfl rfl (q := 403) rfl ?_
    refine Jvm.OwnW.iconst O48 at_403 (r := (5 : Int32)) rfl (q := 404) rfl ?_
    refine Jvm.OwnW.ialA O48 at_404 V_a34 (i := 5) rfl (by decide) (v := (.int p5)) rfl (q := 405) rfl ?_
    refine Jvm.OwnW.iload O48 at_405 rfl (q := 407) rfl ?_
    refine Jvm.OwnW.icmpNo O48 at_407 (teq (show p5 = p5 from rfl)).2 (q := 410) rfl ?_
    refine Jvm.OwnW.aload O48 at_410 rfl rfl (q := 412) rfl ?_
    refine Jvm.OwnW.bipush O48 at_412 (r := (6 : Int32)) rfl (q := 414) rfl ?_
    refine Jvm.OwnW.ialA O48 at_414 V_a34 (i := 6) rfl (by decide) (v := (.int p5)) rfl (q := 415) rfl ?_
    refine Jvm.OwnW.iload O48 at_415 rfl (q := 417) rfl ?_
    refine Jvm.OwnW.icmpNo O48 at_417 (teq (show p5 = p5 from rfl)).2 (q := 420) rfl ?_
    refine Jvm.OwnW.iconst O48 at_420 (r := (1 : Int32)) rfl (q := 421) rfl ?_
    refine Jvm.OwnW.goto O48 at_421 (by decide) (q := 425) rfl ?_
    refine Jvm.OwnW.istore O48 at_425 (L' := #[.val (.int p0), .val (.int p1), .val (.int p2), .val (.int p3), .val (.int p4), .val (.int p5), .val (.int (0 : Int32)), .val (.ref a1), .val (.ref a9), .val (.ref a14), .val (.ref a22), .val (.ref a30), .val (.ref a34), .val (.ref a42), .val (.int (fn_m (fn_m (fn_m (fn_m (0 : Int32) ((100 : Int32) * p1)) (((100 : Int32) * p1) + ((100 : Int32) * p2))) ((((100 : Int32) * p1) + ((100 : Int32) * p2)) + ((100 : Int32) * p3))) (((100 : Int32) * p1) + ((100 : Int32) * p4)))), .val (.int ((100 : Int32) * p1)), .val (.int ((100 : Int32) * p1)), .val (.int (((100 : Int32) * p1) + ((100 : Int32) * p2))), .val (.int ((((100 : Int32) * p1) + ((100 : Int32) * p2)) + ((100 : Int32) * p3))), .val (.int (((100 : Int32) * p1) + ((100 : Int32) * p4))), .val (.int p5), .val (.int p5), .val (.int (fn_m (fn_m (fn_m (fn_m (0 : Int32) ((100 : Int32) * p1)) (((100 : Int32) * p1) + ((100 : Int32) * p2))) ((((100 : Int32) * p1) + ((100 : Int32) * p2)) + ((100 : Int32) * p3))) (((100 : Int32) * p1) + ((100 : Int32) * p4)))), .val (.int (1 : Int32)), .unset]) rfl (q := 427) rfl ?_
    refine Jvm.OwnW.aload O48 at_427 rfl rfl (q := 429) rfl ?_
    refine Jvm.OwnW.iconst O48 at_429 (r := (0 : Int32)) rfl (q := 430) rfl ?_
    refine Jvm.OwnW.ialA O48 at_430 V_a30 (i := 0) rfl (by decide) (v := (.int p2)) rfl (q := 431) rfl ?_
    refine Jvm.OwnW.iloadN O48 at_431 rfl (q := 432) rfl ?_
    refine Jvm.OwnW.icmpNo O48 at_432 (teq (show p2 = p2 from rfl)).2 (q := 435) rfl ?_
    refine Jvm.OwnW.aload O48 at_435 rfl rfl (q := 437) rfl ?_
    refine Jvm.OwnW.iconst O48 at_437 (r := (1 : Int32)) rfl (q := 438) rfl ?_
    refine Jvm.OwnW.ialA O48 at_438 V_a30 (i := 1) rfl (by decide) (v := (.int p3)) rfl (q := 439) rfl ?_
    refine Jvm.OwnW.iloadN O48 at_439 rfl (q := 440) rfl ?_
    refine Jvm.OwnW.icmpNo O48 at_440 (teq (show p3 = p3 from rfl)).2 (q := 443) rfl ?_
    refine Jvm.OwnW.aload O48 at_443 rfl rfl (q := 445) rfl ?_
    refine Jvm.OwnW.iconst O48 at_445 (r := (2 : Int32)) rfl (q := 446) rfl ?_
    refine Jvm.OwnW.ialA O48 at_446 V_a30 (i := 2) rfl (by decide) (v := (.int p4)) rfl (q := 447) rfl ?_
    refine Jvm.OwnW.iload O48 at_447 rfl (q := 449) rfl ?_
    refine Jvm.OwnW.icmpNo O48 at_449 (teq (show p4 = p4 from rfl)).2 (q := 452) rfl ?_
    refine Jvm.OwnW.iconst O48 at_452 (r := (1 : Int32)) rfl (q := 453) rfl ?_
    refine Jvm.OwnW.goto O48 at_453 (by decide) (q := 457) rfl ?_
    refine Jvm.OwnW.istore O48 at_457 (L' := #[.val (.int p0), .val (.int p1), .val (.int p2), .val (.int p3), .val (.int p4), .val (.int p5), .val (.int (0 : Int32)), .val (.ref a1), .val (.ref a9), .val (.ref a14), .val (.ref a22), .val (.ref a30), .val (.ref a34), .val (.ref a42), .val (.int (fn_m (fn_m (fn_m (fn_m (0 : Int32) ((100 : Int32) * p1)) (((100 : Int32) * p1) + ((100 : Int32) * p2))) ((((100 : Int32) * p1) + ((100 : Int32) * p2)) + ((100 : Int32) * p3))) (((100 : Int32) * p1) + ((100 : Int32) * p4)))), .val (.int ((100 : Int32) * p1)), .val (.int ((100 : Int32) * p1)), .val (.int (((100 : Int32) * p1) + ((100 : Int32) * p2))), .val (.int ((((100 : Int32) * p1) + ((100 : Int32) * p2)) + ((100 : Int32) * p3))), .val (.int (((100 : Int32) * p1) + ((100 : Int32) * p4))), .val (.int p5), .val (.int p5), .val (.int (fn_m (fn_m (fn_m (fn_m (0 : Int32) ((100 : Int32) * p1)) (((100 : Int32) * p1) + ((100 : Int32) * p2))) ((((100 : Int32) * p1) + ((100 : Int32) * p2)) + ((100 : Int32) * p3))) (((100 : Int32) * p1) + ((100 : Int32) * p4)))), .val (.int (1 : Int32)), .val (.int (1 : Int32))]) rfl (q := 459) rfl ?_
    refine Jvm.OwnW.iload O48 at_459 rfl (q := 461) rfl ?_
    refine Jvm.OwnW.iload O48 at_461 rfl (q := 463) rfl ?_
    refine Jvm.OwnW.icmpNo O48 at_463 (teq (show (fn_m (fn_m (fn_m (fn_m (0 : Int32) ((100 : Int32) * p1)) (((100 : Int32) * p1) + ((100 : Int32) * p2))) ((((100 : Int32) * p1) + ((100 : Int32) * p2)) + ((100 : Int32) * p3))) (((100 : Int32) * p1) + ((100 : Int32) * p4))) = (fn_m (fn_m (fn_m (fn_m (0 : Int32) ((100 : Int32) * p1)) (((100 : Int32) * p1) + ((100 : Int32) * p2))) ((((100 : Int32) * p1) + ((100 : Int32) * p2)) + ((100 : Int32) * p3))) (((100 : Int32) * p1) + ((100 : Int32) * p4))) from rfl)).2 (q := 466) rfl ?_
    refine Jvm.OwnW.iload O48 at_466 rfl (q := 468) rfl ?_
    refine Jvm.OwnW.ifNo O48 at_468 (feq0 (show ¬ ((1 : Int32) = (0 : Int32)) from (by decide))).1 (q := 471) rfl ?_
    refine Jvm.OwnW.iload O48 at_471 rfl (q := 473) rfl ?_
    refine Jvm.OwnW.ifNo O48 at_473 (feq0 (show ¬ ((1 : Int32) = (0 : Int32)) from (by decide))).1 (q := 476) rfl ?_
    refine Jvm.OwnW.iconst O48 at_476 (r := (1 : Int32)) rfl (q := 477) rfl ?_
    refine Jvm.OwnW.goto O48 at_477 (by decide) (q := 481) rfl ?_
    exact Jvm.OwnW.retB O48 at_481 rfl (Or.inr rfl) (by decide) (by decide) rfl
  · skip
    refine Jvm.OwnW.istore O at_6 (L' := #[.val (.int p0), .val (.int p1), .val (.int p2), .val (.int p3), .val (.int p4), .val (.int p5), .val (.int (1 : Int32)), .unset, .unset, .unset, .unset, .unset, .unset, .unset, .unset, .unset, .unset, .unset, .unset, .unset, .unset, .unset, .unset, .unset, .unset]) rfl (q := 8) rfl ?_
    refine Jvm.OwnW.bipush O at_8 (r := (7 : Int32)) rfl (q := 10) rfl ?_
    refine Jvm.OwnW.newA' O at_10 (ty := .int) rfl (hw _ (List.mem_of_getElem? (i := 1) rfl)) (N := 7) rfl (cap := 7) (by decide) (by decide) (c2 := 1) (s2 := 7) rfl rfl (by decide) (by decide) (q := 12) rfl ?_
    intro a49 T49 h49 g49 N49 O49 X49 V_a49
    have V_a49 : Ar Z h49 a49 .int 7 (lf [(.int (0 : Int32)), (.int (0 : Int32)), (.int (0 : Int32)), (.int (0 : Int32)), (.int (0 : Int32)), (.int (0 : Int32)), (.int (0 : Int32))]) := V_a49.congr (lf_rep 7 _)
    refine Jvm.OwnW.dup O49 at_12 rfl (q := 13) rfl ?_
    refine Jvm.OwnW.iconst O49 at_13 (r := (0 : Int32)) rfl (q := 14) rfl ?_
    refine Jvm.OwnW.iconst O49 at_14 (r := (0 : Int32)) rfl (q := 15) rfl ?_
    refine Jvm.OwnW.iasA O49 at_15 V_a49 (i := 0) rfl (by decide) (Or.inr N49) (q := 16) rfl ?_
    intro T50 h50 O50 W50
    have V_a49 : Ar Z h50 a49 .int 7 (lf [(.int (0 : Int32)), (.int (0 : Int32)), (.int (0 : Int32)), (.int (0 : Int32)), (.int (0 : Int32)), (.int (0 : Int32)), (.int (0 : Int32))]) := V_a49.setL W50 (by decide) (Nat.le_of_ble_eq_true rfl)
    refine Jvm.OwnW.dup O50 at_16 rfl (q := 17) rfl ?_
    refine Jvm.OwnW.iconst O50 at_17 (r := (1 : Int32)) rfl (q := 18) rfl ?_
    refine Jvm.OwnW.iconst O50 at_18 (r := (1 : Int32)) rfl (q := 19) rfl ?_
    refine Jvm.OwnW.iasA O50 at_19 V_a49 (i := 1) rfl (by decide) (Or.inr N49) (q := 20) rfl ?_
    intro T51 h51 O51 W51
    have V_a49 : Ar Z h51 a49 .int 7 (lf [(.int (0 : Int32)), (.int (1 : Int32)), (.int (0 : Int32)), (.int (0 : Int32)), (.int (0 : Int32)), (.int (0 : Int32)), (.int (0 : Int32))]) := V_a49.setL W51 (by decide) (Nat.le_of_ble_eq_true rfl)
    refine Jvm.OwnW.dup O51 at_20 rfl (q := 21) rfl ?_
    refine Jvm.OwnW.iconst O51 at_21 (r := (2 : Int32)) rfl (q := 22) rfl ?_
    refine Jvm.OwnW.iconst O51 at_22 (r := (2 : Int32)) rfl (q := 23) rfl ?_
    refine Jvm.OwnW.iasA O51 at_23 V_a49 (i := 2) rfl (by decide) (Or.inr N49) (q := 24) rfl ?_
    intro T52 h52 O52 W52
    have V_a49 : Ar Z h52 a49 .int 7 (lf [(.int (0 : Int32)), (.int (1 : Int32)), (.int (2 : Int32)), (.int (0 : Int32)), (.int (0 : Int32)), (.int (0 : Int32)), (.int (0 : Int32))]) := V_a49.setL W52 (by decide) (Nat.le_of_ble_eq_true rfl)
    refine Jvm.OwnW.dup O52 at_24 rfl (q := 25) rfl ?_
    refine Jvm.OwnW.iconst O52 at_25 (r := (3 : Int32)) rfl (q := 26) rfl ?_
    refine Jvm.OwnW.iconst O52 at_26 (r := (3 : Int32)) rfl (q := 27) rfl ?_
    refine Jvm.OwnW.iasA O52 at_27 V_a49 (i := 3) rfl (by decide) (Or.inr N49) (q := 28) rfl ?_
    intro T53 h53 O53 W53
    have V_a49 : Ar Z h53 a49 .int 7 (lf [(.int (0 : Int32)), (.int (1 : Int32)), (.int (2 : Int32)), (.int (3 : Int32)), (.int (0 : Int32)), (.int (0 : Int32)), (.int (0 : Int32))]) := V_a49.setL W53 (by decide) (Nat.le_of_ble_eq_true rfl)
    refine Jvm.OwnW.dup O53 at_28 rfl (q := 29) rfl ?_
    refine Jvm.OwnW.iconst O53 at_29 (r := (4 : Int32)) rfl (q := 30) rfl ?_
    refine Jvm.OwnW.iconst O53 at_30 (r := (4 : Int32)) rfl (q := 31) rfl ?_
    refine Jvm.OwnW.iasA O53 at_31 V_a49 (i := 4) rfl (by decide) (Or.inr N49) (q := 32) rfl ?_
    intro T54 h54 O54 W54
    have V_a49 : Ar Z h54 a49 .int 7 (lf [(.int (0 : Int32)), (.int (1 : Int32)), (.int (2 : Int32)), (.int (3 : Int32)), (.int (4 : Int32)), (.int (0 : Int32)), (.int (0 : Int32))]) := V_a49.setL W54 (by decide) (Nat.le_of_ble_eq_true rfl)
    refine Jvm.OwnW.dup O54 at_32 rfl (q := 33) rfl ?_
    refine Jvm.OwnW.iconst O54 at_33 (r := (5 : Int32)) rfl (q := 34) rfl ?_
    refine Jvm.OwnW.iconst O54 at_34 (r := (5 : Int32)) rfl (q := 35) rfl ?_
    refine Jvm.OwnW.iasA O54 at_35 V_a49 (i := 5) rfl (by decide) (Or.inr N49) (q := 36) rfl ?_
    intro T55 h55 O55 W55
    have V_a49 : Ar Z h55 a49 .int 7 (lf [(.int (0 : Int32)), (.int (1 : Int32)), (.int (2 : Int32)), (.int (3 : Int32)), (.int (4 : Int32)), (.int (5 : Int32)), (.int (0 : Int32))]) := V_a49.setL W55 (by decide) (Nat.le_of_ble_eq_true rfl)
    refine Jvm.OwnW.dup O55 at_36 rfl (q := 37) rfl ?_
    refine Jvm.OwnW.bipush O55 at_37 (r := (6 : Int32)) rfl (q := 39) rfl ?_
    refine Jvm.OwnW.bipush O55 at_39 (r := (6 : Int32)) rfl (q := 41) rfl ?_
    refine Jvm.OwnW.iasA O55 at_41 V_a49 (i := 6) rfl (by decide) (Or.inr N49) (q := 42) rfl ?_
    intro T56 h56 O56 W56
    have V_a49 : Ar Z h56 a49 .int 7 (lf [(.int (0 : Int32)), (.int (1 : Int32)), (.int (2 : Int32)), (.int (3 : Int32)), (.int (4 : Int32)), (.int (5 : Int32)), (.int (6 : Int32))]) := V_a49.setL W56 (by decide) (Nat.le_of_ble_eq_true rfl)
    refine Jvm.OwnW.astore O56 at_42 rfl (L' := #[.val (.int p0), .val (.int p1), .val (.int p2), .val (.int p3), .val (.int p4), .val (.int p5), .val (.int (1 : Int32)), .val (.ref a49), .unset, .unset, .unset, .unset, .unset, .unset, .unset, .unset, .unset, .unset, .unset, .unset, .unset, .unset, .unset, .unset, .unset]) rfl (q := 44) rfl ?_
    refine Jvm.OwnW.iconst O56 at_44 (r := (4 : Int32)) rfl (q := 45) rfl ?_
    refine Jvm.OwnW.newA' O56 at_45 (ty := .int) rfl (hw _ (List.mem_of_getElem? (i := 1) rfl)) (N := 4) rfl (cap := 4) (by decide) (by decide) (c2 := 2) (s2 := 11) rfl rfl (by decide) (by decide) (q := 47) rfl ?_
    intro a57 T57 h57 g57 N57 O57 X57 V_a57
    have ne_a49_a57 : a49 ≠ a57 := Nat.ne_of_lt (Nat.lt_of_lt_of_le V_a49.lt (Nat.le_of_eq g57.symm))
    have V_a49 := V_a49.ext X57
    have V_a57 : Ar Z h57 a57 .int 4 (lf [(.int (0 : Int32)), (.int (0 : Int32)), (.int (0 : Int32)), (.int (0 : Int32))]) := V_a57.congr (lf_rep 4 _)
    refine Jvm.OwnW.dup O57 at_47 rfl (q := 48) rfl ?_
    refine Jvm.OwnW.iconst O57 at_48 (r := (0 : Int32)) rfl (q := 49) rfl ?_
    refine Jvm.OwnW.iconst O57 at_49 (r := (0 : Int32)) rfl (q := 50) rfl ?_
    refine Jvm.OwnW.iasA O57 at_50 V_a57 (i := 0) rfl (by decide) (Or.inr N57) (q := 51) rfl ?_
    intro T58 h58 O58 W58
    have V_a57 : Ar Z h58 a57 .int 4 (lf [(.int (0 : Int32)), (.int (0 : Int32)), (.int (0 : Int32)), (.int (0 : Int32))]) := V_a57.setL W58 (by decide) (Nat.le_of_ble_eq_true rfl)
    have V_a49 := V_a49.other W58 ne_a49_a57
    refine Jvm.OwnW.dup O58 at_51 rfl (q := 52) rfl ?_
    refine Jvm.OwnW.iconst O58 at_52 (r := (1 : Int32)) rfl (q := 53) rfl ?_
    refine Jvm.OwnW.iconst O58 at_53 (r := (4 : Int32)) rfl (q := 54) rfl ?_
    refine Jvm.OwnW.iasA O58 at_54 V_a57 (i := 1) rfl (by decide) (Or.inr N57) (q := 55) rfl ?_
    intro T59 h59 O59 W59
    have V_a57 : Ar Z h59 a57 .int 4 (lf [(.int (0 : Int32)), (.int (4 : Int32)), (.int (0 : Int32)), (.int (0 : Int32))]) := V_a57.setL W59 (by decide) (Nat.le_of_ble_eq_true rfl)
    have V_a49 := V_a49.other W59 ne_a49_a57
    refine Jvm.OwnW.dup O59 at_55 rfl (q := 56) rfl ?_
    refine Jvm.OwnW.iconst O59 at_56 (r := (2 : Int32)) rfl (q := 57) rfl ?_
    refine Jvm.OwnW.bipush O59 at_57 (r := (6 : Int32)) rfl (q := 59) rfl ?_
    refine Jvm.OwnW.iasA O59 at_59 V_a57 (i := 2) rfl (by decide) (Or.inr N57) (q := 60) rfl ?_
    intro T60 h60 O60 W60
    have V_a57 : Ar Z h60 a57 .int 4 (lf [(.int (0 : Int32)), (.int (4 : Int32)), (.int (6 : Int32)), (.int (0 : Int32))]) := V_a57.setL W60 (by decide) (Nat.le_of_ble_eq_true rfl)
    have V_a49 := V_a49.other W60 ne_a49_a57
    refine Jvm.OwnW.dup O60 at_60 rfl (q := 61) rfl ?_
    refine Jvm.OwnW.iconst O60 at_61 (r := (3 : Int32)) rfl (q := 62) rfl ?_
    refine Jvm.OwnW.bipush O60 at_62 (r := (6 : Int32)) rfl (q := 64) rfl ?_
    refine Jvm.OwnW.iasA O60 at_64 V_a57 (i := 3) rfl (by decide) (Or.inr N57) (q := 65) rfl ?_
    intro T61 h61 O61 W61
    have V_a57 : Ar Z h61 a57 .int 4 (lf [(.int (0 : Int32)), (.int (4 : Int32)), (.int (6 : Int32)), (.int (6 : Int32))]) := V_a57.setL W61 (by decide) (Nat.le_of_ble_eq_true rfl)
    have V_a49 := V_a49.other W61 ne_a49_a57
    refine Jvm.OwnW.astore O61 at_65 rfl (L' := #[.val (.int p0), .val (.int p1), .val (.int p2), .val (.int p3), .val (.int p4), .val (.int p5), .val (.int (1 : Int32)), .val (.ref a49), .val (.ref a57), .unset, .unset, .unset, .unset, .unset, .unset, .unset, .unset, .unset, .unset, .unset, .unset, .unset, .unset, .unset, .unset]) rfl (q := 67) rfl ?_
    refine Jvm.OwnW.bipush O61 at_67 (r := (7 : Int32)) rfl (q := 69) rfl ?_
    refine Jvm.OwnW.newA' O61 at_69 (ty := .int) rfl (hw _ (List.mem_of_getElem? (i := 1) rfl)) (N := 7) rfl (cap := 7) (by decide) (by decide) (c2 := 3) (s2 := 18) rfl rfl (by decide) (by decide) (q := 71) rfl ?_
    intro a62 T62 h62 g62 N62 O62 X62 V_a62
    have ne_a49_a62 : a49 ≠ a62 := Nat.ne_of_lt (Nat.lt_of_lt_of_le V_a49.lt (Nat.le_of_eq g62.symm))
    have ne_a57_a62 : a57 ≠ a62 := Nat.ne_of_lt (Nat.lt_of_lt_of_le V_a57.lt (Nat.le_of_eq g62.symm))
    have V_a49 := V_a49.ext X62
    have V_a57 := V_a57.ext X62
    have V_a62 : Ar Z h62 a62 .int 7 (lf [(.int (0 : Int32)), (.int (0 : Int32)), (.int (0 : Int32)), (.int (0 : Int32)), (.int (0 : Int32)), (.int (0 : Int32)), (.int (0 : Int32))]) := V_a62.congr (lf_rep 7 _)
    refine Jvm.OwnW.dup O62 at_71 rfl (q := 72) rfl ?_
    refine Jvm.OwnW.iconst O62 at_72 (r := (0 : Int32)) rfl (q := 73) rfl ?_
    refine Jvm.OwnW.iconst O62 at_73 (r := (-1 : Int32)) rfl (q := 74) rfl ?_
    refine Jvm.OwnW.iasA O62 at_74 V_a62 (i := 0) rfl (by decide) (Or.inr N62) (q := 75) rfl ?_
    intro T63 h63 O63 W63
    have V_a62 : Ar Z h63 a62 .int 7 (lf [(.int (-1 : Int32)), (.int (0 : Int32)), (.int (0 : Int32)), (.int (0 : Int32)), (.int (0 : Int32)), (.int (0 : Int32)), (.int (0 : Int32))]) := V_a62.setL W63 (by decide) (Nat.le_of_ble_eq_true rfl)
    have V_a49 := V_a49.other W63 ne_a49_a62
    have V_a57 := V_a57.other W63 ne_a57_a62
    refine Jvm.OwnW.dup O63 at_75 rfl (q := 76) rfl ?_
    refine Jvm.OwnW.iconst O63 at_76 (r := (1 : Int32)) rfl (q := 77) rfl ?_
    refine Jvm.OwnW.iconst O63 at_77 (r := (0 : Int32)) rfl (q := 78) rfl ?_
    refine Jvm.OwnW.iasA O63 at_78 V_a62 (i := 1) rfl (by decide) (Or.inr N62) (q := 79) rfl ?_
    intro T64 h64 O64 W64
    have V_a62 : Ar Z h64 a62 .int 7 (lf [(.int (-1 : Int32)), (.int (0 : Int32)), (.int (0 : Int32)), (.int (0 : Int32)), (.int (0 : Int32)), (.int (0 : Int32)), (.int (0 : Int32))]) := V_a62.setL W64 (by decide) (Nat.le_of_ble_eq_true rfl)
    have V_a49 := V_a49.other W64 ne_a49_a62
    have V_a57 := V_a57.other W64 ne_a57_a62
    refine Jvm.OwnW.dup O64 at_79 rfl (q := 80) rfl ?_
    refine Jvm.OwnW.iconst O64 at_80 (r := (2 : Int32)) rfl (q := 81) rfl ?_
    refine Jvm.OwnW.iconst O64 at_81 (r := (1 : Int32)) rfl (q := 82) rfl ?_
    refine Jvm.OwnW.iasA O64 at_82 V_a62 (i := 2) rfl (by decide) (Or.inr N62) (q := 83) rfl ?_
    intro T65 h65 O65 W65
    have V_a62 : Ar Z h65 a62 .int 7 (lf [(.int (-1 : Int32)), (.int (0 : Int32)), (.int (1 : Int32)), (.int (0 : Int32)), (.int (0 : Int32)), (.int (0 : Int32)), (.int (0 : Int32))]) := V_a62.setL W65 (by decide) (Nat.le_of_ble_eq_true rfl)
    have V_a49 := V_a49.other W65 ne_a49_a62
    have V_a57 := V_a57.other W65 ne_a57_a62
    refine Jvm.OwnW.dup O65 at_83 rfl (q := 84) rfl ?_
    refine Jvm.OwnW.iconst O65 at_84 (r := (3 : Int32)) rfl (q := 85) rfl ?_
    refine Jvm.OwnW.iconst O65 at_85 (r := (0 : Int32)) rfl (q := 86) rfl ?_
    refine Jvm.OwnW.iasA O65 at_86 V_a62 (i := 3) rfl (by decide) (Or.inr N62) (q := 87) rfl ?_
    intro T66 h66 O66 W66
    have V_a62 : Ar Z h66 a62 .int 7 (lf [(.int (-1 : Int32)), (.int (0 : Int32)), (.int (1 : Int32)), (.int (0 : Int32)), (.int (0 : Int32)), (.int (0 : Int32)), (.int (0 : Int32))]) := V_a62.setL W66 (by decide) (Nat.le_of_ble_eq_true rfl)
    have V_a49 := V_a49.other W66 ne_a49_a62
    have V_a57 := V_a57.other W66 ne_a57_a62
    refine Jvm.OwnW.dup O66 at_87 rfl (q := 88) rfl ?_
    refine Jvm.OwnW.iconst O66 at_88 (r := (4 : Int32)) rfl (q := 89) rfl ?_
    refine Jvm.OwnW.iconst O66 at_89 (r := (-1 : Int32)) rfl (q := 90) rfl ?_
    refine Jvm.OwnW.iasA O66 at_90 V_a62 (i := 4) rfl (by decide) (Or.inr N62) (q := 91) rfl ?_
    intro T67 h67 O67 W67
    have V_a62 : Ar Z h67 a62 .int 7 (lf [(.int (-1 : Int32)), (.int (0 : Int32)), (.int (1 : Int32)), (.int (0 : Int32)), (.int (-1 : Int32)), (.int (0 : Int32)), (.int (0 : Int32))]) := V_a62.setL W67 (by decide) (Nat.le_of_ble_eq_true rfl)
    have V_a49 := V_a49.other W67 ne_a49_a62
    have V_a57 := V_a57.other W67 ne_a57_a62
    refine Jvm.OwnW.dup O67 at_91 rfl (q := 92) rfl ?_
    refine Jvm.OwnW.iconst O67 at_92 (r := (5 : Int32)) rfl (q := 93) rfl ?_
    refine Jvm.OwnW.iconst O67 at_93 (r := (4 : Int32)) rfl (q := 94) rfl ?_
    refine Jvm.OwnW.iasA O67 at_94 V_a62 (i := 5) rfl (by decide) (Or.inr N62) (q := 95) rfl ?_
    intro T68 h68 O68 W68
    have V_a62 : Ar Z h68 a62 .int 7 (lf [(.int (-1 : Int32)), (.int (0 : Int32)), (.int (1 : Int32)), (.int (0 : Int32)), (.int (-1 : Int32)), (.int (4 : Int32)), (.int (0 : Int32))]) := V_a62.setL W68 (by decide) (Nat.le_of_ble_eq_true rfl)
    have V_a49 := V_a49.other W68 ne_a49_a62
    have V_a57 := V_a57.other W68 ne_a57_a62
    refine Jvm.OwnW.dup O68 at_95 rfl (q := 96) rfl ?_
    refine Jvm.OwnW.bipush O68 at_96 (r := (6 : Int32)) rfl (q := 98) rfl ?_
    refine Jvm.OwnW.iconst O68 at_98 (r := (-1 : Int32)) rfl (q := 99) rfl ?_
    refine Jvm.OwnW.iasA O68 at_99 V_a62 (i := 6) rfl (by decide) (Or.inr N62) (q := 100) rfl ?_
    intro T69 h69 O69 W69
    have V_a62 : Ar Z h69 a62 .int 7 (lf [(.int (-1 : Int32)), (.int (0 : Int32)), (.int (1 : Int32)), (.int (0 : Int32)), (.int (-1 : Int32)), (.int (4 : Int32)), (.int (-1 : Int32))]) := V_a62.setL W69 (by decide) (Nat.le_of_ble_eq_true rfl)
    have V_a49 := V_a49.other W69 ne_a49_a62
    have V_a57 := V_a57.other W69 ne_a57_a62
    refine Jvm.OwnW.astore O69 at_100 rfl (L' := #[.val (.int p0), .val (.int p1), .val (.int p2), .val (.int p3), .val (.int p4), .val (.int p5), .val (.int (1 : Int32)), .val (.ref a49), .val (.ref a57), .val (.ref a62), .unset, .unset, .unset, .unset, .unset, .unset, .unset, .unset, .unset, .unset, .unset, .unset, .unset, .unset, .unset]) rfl (q := 102) rfl ?_
    refine Jvm.OwnW.bipush O69 at_102 (r := (7 : Int32)) rfl (q := 104) rfl ?_
    refine Jvm.OwnW.newA' O69 at_104 (ty := .int) rfl (hw _ (List.mem_of_getElem? (i := 1) rfl)) (N := 7) rfl (cap := 7) (by decide) (by decide) (c2 := 4) (s2 := 25) rfl rfl (by decide) (by decide) (q := 106) rfl ?_
    intro a70 T70 h70 g70 N70 O70 X70 V_a70
    have ne_a49_a70 : a49 ≠ a70 := Nat.ne_of_lt (Nat.lt_of_lt_of_le V_a49.lt (Nat.le_of_eq g70.symm))
    have ne_a57_a70 : a57 ≠ a70 := Nat.ne_of_lt (Nat.lt_of_lt_of_le V_a57.lt (Nat.le_of_eq g70.symm))
    have ne_a62_a70 : a62 ≠ a70 := Nat.ne_of_lt (Nat.lt_of_lt_of_le V_a62.lt (Nat.le_of_eq g70.symm))
    have V_a49 := V_a49.ext X70
    have V_a57 := V_a57.ext X70
    have V_a62 := V_a62.ext X70
    have V_a70 : Ar Z h70 a70 .int 7 (lf [(.int (0 : Int32)), (.int (0 : Int32)), (.int (0 : Int32)), (.int (0 : Int32)), (.int (0 : Int32)), (.int (0 : Int32)), (.int (0 : Int32))]) := V_a70.congr (lf_rep 7 _)
    refine Jvm.OwnW.dup O70 at_106 rfl (q := 107) rfl ?_
    refine Jvm.OwnW.iconst O70 at_107 (r := (0 : Int32)) rfl (q := 108) rfl ?_
    refine Jvm.OwnW.iconst O70 at_108 (r := (-1 : Int32)) rfl (q := 109) rfl ?_
    refine Jvm.OwnW.iasA O70 at_109 V_a70 (i := 0) rfl (by decide) (Or.inr N70) (q := 110) rfl ?_
    intro T71 h71 O71 W71
    have V_a70 : Ar Z h71 a70 .int 7 (lf [(.int (-1 : Int32)), (.int (0 : Int32)), (.int (0 : Int32)), (.int (0 : Int32)), (.int (0 : Int32)), (.int (0 : Int32)), (.int (0 : Int32))]) := V_a70.setL W71 (by decide) (Nat.le_of_ble_eq_true rfl)
    have V_a49 := V_a49.other W71 ne_a49_a70
    have V_a57 := V_a57.other W71 ne_a57_a70
    have V_a62 := V_a62.other W71 ne_a62_a70
    refine Jvm.OwnW.dup O71 at_110 rfl (q := 111) rfl ?_
    refine Jvm.OwnW.iconst O71 at_111 (r := (1 : Int32)) rfl (q := 112) rfl ?_
    refine Jvm.OwnW.iconst O71 at_112 (r := (0 : Int32)) rfl (q := 113) rfl ?_
    refine Jvm.OwnW.iasA O71 at_113 V_a70 (i := 1) rfl (by decide) (Or.inr N70) (q := 114) rfl ?_
    intro T72 h72 O72 W72
    have V_a70 : Ar Z h72 a70 .int 7 (lf [(.int (-1 : Int32)), (.int (0 : Int32)), (.int (0 : Int32)), (.int (0 : Int32)), (.int (0 : Int32)), (.int (0 : Int32)), (.int (0 : Int32))]) := V_a70.setL W72 (by decide) (Nat.le_of_ble_eq_true rfl)
    have V_a49 := V_a49.other W72 ne_a49_a70
    have V_a57 := V_a57.other W72 ne_a57_a70
    have V_a62 := V_a62.other W72 ne_a62_a70
    refine Jvm.OwnW.dup O72 at_114 rfl (q := 115) rfl ?_
    refine Jvm.OwnW.iconst O72 at_115 (r := (2 : Int32)) rfl (q := 116) rfl ?_
    refine Jvm.OwnW.iconst O72 at_116 (r := (1 : Int32)) rfl (q := 117) rfl ?_
    refine Jvm.OwnW.iasA O72 at_117 V_a70 (i := 2) rfl (by decide) (Or.inr N70) (q := 118) rfl ?_
    intro T73 h73 O73 W73
    have V_a70 : Ar Z h73 a70 .int 7 (lf [(.int (-1 : Int32)), (.int (0 : Int32)), (.int (1 : Int32)), (.int (0 : Int32)), (.int (0 : Int32)), (.int (0 : Int32)), (.int (0 : Int32))]) := V_a70.setL W73 (by decide) (Nat.le_of_ble_eq_true rfl)
    have V_a49 := V_a49.other W73 ne_a49_a70
    have V_a57 := V_a57.other W73 ne_a57_a70
    have V_a62 := V_a62.other W73 ne_a62_a70
    refine Jvm.OwnW.dup O73 at_118 rfl (q := 119) rfl ?_
    refine Jvm.OwnW.iconst O73 at_119 (r := (3 : Int32)) rfl (q := 120) rfl ?_
    refine Jvm.OwnW.iconst O73 at_120 (r := (2 : Int32)) rfl (q := 121) rfl ?_
    refine Jvm.OwnW.iasA O73 at_121 V_a70 (i := 3) rfl (by decide) (Or.inr N70) (q := 122) rfl ?_
    intro T74 h74 O74 W74
    have V_a70 : Ar Z h74 a70 .int 7 (lf [(.int (-1 : Int32)), (.int (0 : Int32)), (.int (1 : Int32)), (.int (2 : Int32)), (.int (0 : Int32)), (.int (0 : Int32)), (.int (0 : Int32))]) := V_a70.setL W74 (by decide) (Nat.le_of_ble_eq_true rfl)
    have V_a49 := V_a49.other W74 ne_a49_a70
    have V_a57 := V_a57.other W74 ne_a57_a70
    have V_a62 := V_a62.other W74 ne_a62_a70
    refine Jvm.OwnW.dup O74 at_122 rfl (q := 123) rfl ?_
    refine Jvm.OwnW.iconst O74 at_123 (r := (4 : Int32)) rfl (q := 124) rfl ?_
    refine Jvm.OwnW.iconst O74 at_124 (r := (-1 : Int32)) rfl (q := 125) rfl ?_
    refine Jvm.OwnW.iasA O74 at_125 V_a70 (i := 4) rfl (by decide) (Or.inr N70) (q := 126) rfl ?_
    intro T75 h75 O75 W75
    have V_a70 : Ar Z h75 a70 .int 7 (lf [(.int (-1 : Int32)), (.int (0 : Int32)), (.int (1 : Int32)), (.int (2 : Int32)), (.int (-1 : Int32)), (.int (0 : Int32)), (.int (0 : Int32))]) := V_a70.setL W75 (by decide) (Nat.le_of_ble_eq_true rfl)
    have V_a49 := V_a49.other W75 ne_a49_a70
    have V_a57 := V_a57.other W75 ne_a57_a70
    have V_a62 := V_a62.other W75 ne_a62_a70
    refine Jvm.OwnW.dup O75 at_126 rfl (q := 127) rfl ?_
    refine Jvm.OwnW.iconst O75 at_127 (r := (5 : Int32)) rfl (q := 128) rfl ?_
    refine Jvm.OwnW.iconst O75 at_128 (r := (1 : Int32)) rfl (q := 129) rfl ?_
    refine Jvm.OwnW.iasA O75 at_129 V_a70 (i := 5) rfl (by decide) (Or.inr N70) (q := 130) rfl ?_
    intro T76 h76 O76 W76
    have V_a70 : Ar Z h76 a70 .int 7 (lf [(.int (-1 : Int32)), (.int (0 : Int32)), (.int (1 : Int32)), (.int (2 : Int32)), (.int (-1 : Int32)), (.int (1 : Int32)), (.int (0 : Int32))]) := V_a70.setL W76 (by decide) (Nat.le_of_ble_eq_true rfl)
    have V_a49 := V_a49.other W76 ne_a49_a70
    have V_a57 := V_a57.other W76 ne_a57_a70
    have V_a62 := V_a62.other W76 ne_a62_a70
    refine Jvm.OwnW.dup O76 at_130 rfl (q := 131) rfl ?_
    refine Jvm.OwnW.bipush O76 at_131 (r := (6 : Int32)) rfl (q := 133) rfl ?_
    refine Jvm.OwnW.iconst O76 at_133 (r := (-1 : Int32)) rfl (q := 134) rfl ?_
    refine Jvm.OwnW.iasA O76 at_134 V_a70 (i := 6) rfl (by decide) (Or.inr N70) (q := 135) rfl ?_
    intro T77 h77 O77 W77
    have V_a70 : Ar Z h77 a70 .int 7 (lf [(.int (-1 : Int32)), (.int (0 : Int32)), (.int (1 : Int32)), (.int (2 : Int32)), (.int (-1 : Int32)), (.int (1 : Int32)), (.int (-1 : Int32))]) := V_a70.setL W77 (by decide) (Nat.le_of_ble_eq_true rfl)
    have V_a49 := V_a49.other W77 ne_a49_a70
    have V_a57 := V_a57.other W77 ne_a57_a70
    have V_a62 := V_a62.other W77 ne_a62_a70
    refine Jvm.OwnW.astore O77 at_135 rfl (L' := #[.val (.int p0), .val (.int p1), .val (.int p2), .val (.int p3), .val (.int p4), .val (.int p5), .val (.int (1 : Int32)), .val (.ref a49), .val (.ref a57), .val (.ref a62), .val (.ref a70), .unset, .unset, .unset, .unset, .unset, .unset, .unset, .unset, .unset, .unset, .unset, .unset, .unset, .unset]) rfl (q := 137) rfl ?_
    refine Jvm.OwnW.iconst O77 at_137 (r := (3 : Int32)) rfl (q := 138) rfl ?_
    refine Jvm.OwnW.newA' O77 at_138 (ty := .int) rfl (hw _ (List.mem_of_getElem? (i := 1) rfl)) (N := 3) rfl (cap := 3) (by decide) (by decide) (c2 := 5) (s2 := 28) rfl rfl (by decide) (by decide) (q := 140) rfl ?_
    intro a78 T78 h78 g78 N78 O78 X78 V_a78
    have ne_a49_a78 : a49 ≠ a78 := Nat.ne_of_lt (Nat.lt_of_lt_of_le V_a49.lt (Nat.le_of_eq g78.symm))
    have ne_a57_a78 : a57 ≠ a78 := Nat.ne_of_lt (Nat.lt_of_lt_of_le V_a57.lt (Nat.le_of_eq g78.symm))
    have ne_a62_a78 : a62 ≠ a78 := Nat.ne_of_lt (Nat.lt_of_lt_of_le V_a62.lt (Nat.le_of_eq g78.symm))
    have ne_a70_a78 : a70 ≠ a78 := Nat.ne_of_lt (Nat.lt_of_lt_of_le V_a70.lt (Nat.le_of_eq g78.symm))
    have V_a49 := V_a49.ext X78
    have V_a57 := V_a57.ext X78
    have V_a62 := V_a62.ext X78
    have V_a70 := V_a70.ext X78
    have V_a78 : Ar Z h78 a78 .int 3 (lf [(.int (0 : Int32)), (.int (0 : Int32)), (.int (0 : Int32))]) := V_a78.congr (lf_rep 3 _)
    refine Jvm.OwnW.dup O78 at_140 rfl (q := 141) rfl ?_
    refine Jvm.OwnW.iconst O78 at_141 (r := (0 : Int32)) rfl (q := 142) rfl ?_
    refine Jvm.OwnW.iloadN O78 at_142 rfl (q := 143) rfl ?_
    refine Jvm.OwnW.iasA O78 at_143 V_a78 (i := 0) rfl (by decide) (Or.inr N78) (q := 144) rfl ?_
    intro T79 h79 O79 W79
    have V_a78 : Ar Z h79 a78 .int 3 (lf [(.int p2), (.int (0 : Int32)), (.int (0 : Int32))]) := V_a78.setL W79 (by decide) (Nat.le_of_ble_eq_true rfl)
    have V_a49 := V_a49.other W79 ne_a49_a78
    have V_a57 := V_a57.other W79 ne_a57_a78
    have V_a62 := V_a62.other W79 ne_a62_a78
    have V_a70 := V_a70.other W79 ne_a70_a78
    refine Jvm.OwnW.dup O79 at_144 rfl (q := 145) rfl ?_
    refine Jvm.OwnW.iconst O79 at_145 (r := (1 : Int32)) rfl (q := 146) rfl ?_
    refine Jvm.OwnW.iloadN O79 at_146 rfl (q := 147) rfl ?_
    refine Jvm.OwnW.iasA O79 at_147 V_a78 (i := 1) rfl (by decide) (Or.inr N78) (q := 148) rfl ?_
    intro T80 h80 O80 W80
    have V_a78 : Ar Z h80 a78 .int 3 (lf [(.int p2), (.int p3), (.int (0 : Int32))]) := V_a78.setL W80 (by decide) (Nat.le_of_ble_eq_true rfl)
    have V_a49 := V_a49.other W80 ne_a49_a78
    have V_a57 := V_a57.other W80 ne_a57_a78
    have V_a62 := V_a62.other W80 ne_a62_a78
    have V_a70 := V_a70.other W80 ne_a70_a78
    refine Jvm.OwnW.dup O80 at_148 rfl (q := 149) rfl ?_
    refine Jvm.OwnW.iconst O80 at_149 (r := (2 : Int32)) rfl (q := 150) rfl ?_
    refine Jvm.OwnW.iload O80 at_150 rfl (q := 152) rfl ?_
    refine Jvm.OwnW.iasA O80 at_152 V_a78 (i := 2) rfl (by decide) (Or.inr N78) (q := 153) rfl ?_
    intro T81 h81 O81 W81
    have V_a78 : Ar Z h81 a78 .int 3 (lf [(.int p2), (.int p3), (.int p4)]) := V_a78.setL W81 (by decide) (Nat.le_of_ble_eq_true rfl)
    have V_a49 := V_a49.other W81 ne_a49_a78
    have V_a57 := V_a57.other W81 ne_a57_a78
    have V_a62 := V_a62.other W81 ne_a62_a78
    have V_a70 := V_a70.other W81 ne_a70_a78
    refine Jvm.OwnW.astore O81 at_153 rfl (L' := #[.val (.int p0), .val (.int p1), .val (.int p2), .val (.int p3), .val (.int p4), .val (.int p5), .val (.int (1 : Int32)), .val (.ref a49), .val (.ref a57), .val (.ref a62), .val (.ref a70), .val (.ref a78), .unset, .unset, .unset, .unset, .unset, .unset, .unset, .unset, .unset, .unset, .unset, .unset, .unset]) rfl (q := 155) rfl ?_
    refine Jvm.OwnW.bipush O81 at_155 (r := (7 : Int32)) rfl (q := 157) rfl ?_
    refine Jvm.OwnW.newA' O81 at_157 (ty := .int) rfl (hw _ (List.mem_of_getElem? (i := 1) rfl)) (N := 7) rfl (cap := 7) (by decide) (by decide) (c2 := 6) (s2 := 35) rfl rfl (by decide) (by decide) (q := 159) rfl ?_
    intro a82 T82 h82 g82 N82 O82 X82 V_a82
    have ne_a49_a82 : a49 ≠ a82 := Nat.ne_of_lt (Nat.lt_of_lt_of_le V_a49.lt (Nat.le_of_eq g82.symm))
    have ne_a57_a82 : a57 ≠ a82 := Nat.ne_of_lt (Nat.lt_of_lt_of_le V_a57.lt (Nat.le_of_eq g82.symm))
    have ne_a62_a82 : a62 ≠ a82 := Nat.ne_of_lt (Nat.lt_of_lt_of_le V_a62.lt (Nat.le_of_eq g82.symm))
    have ne_a70_a82 : a70 ≠ a82 := Nat.ne_of_lt (Nat.lt_of_lt_of_le V_a70.lt (Nat.le_of_eq g82.symm))
    have ne_a78_a82 : a78 ≠ a82 := Nat.ne_of_lt (Nat.lt_of_lt_of_le V_a78.lt (Nat.le_of_eq g82.symm))
    have V_a49 := V_a49.ext X82
    have V_a57 := V_a57.ext X82
    have V_a62 := V_a62.ext X82
    have V_a70 := V_a70.ext X82
    have V_a78 := V_a78.ext X82
    have V_a82 : Ar Z h82 a82 .int 7 (lf [(.int (0 : Int32)), (.int (0 : Int32)), (.int (0 : Int32)), (.int (0 : Int32)), (.int (0 : Int32)), (.int (0 : Int32)), (.int (0 : Int32))]) := V_a82.congr (lf_rep 7 _)
    refine Jvm.OwnW.dup O82 at_159 rfl (q := 160) rfl ?_
    refine Jvm.OwnW.iconst O82 at_160 (r := (0 : Int32)) rfl (q := 161) rfl ?_
    refine Jvm.OwnW.iload O82 at_161 rfl (q := 163) rfl ?_
    refine Jvm.OwnW.iasA O82 at_163 V_a82 (i := 0) rfl (by decide) (Or.inr N82) (q := 164) rfl ?_
    intro T83 h83 O83 W83
    have V_a82 : Ar Z h83 a82 .int 7 (lf [(.int p5), (.int (0 : Int32)), (.int (0 : Int32)), (.int (0 : Int32)), (.int (0 : Int32)), (.int (0 : Int32)), (.int (0 : Int32))]) := V_a82.setL W83 (by decide) (Nat.le_of_ble_eq_true rfl)
    have V_a49 := V_a49.other W83 ne_a49_a82
    have V_a57 := V_a57.other W83 ne_a57_a82
    have V_a62 := V_a62.other W83 ne_a62_a82
    have V_a70 := V_a70.other W83 ne_a70_a82
    have V_a78 := V_a78.other W83 ne_a78_a82
    refine Jvm.OwnW.dup O83 at_164 rfl (q := 165) rfl ?_
    refine Jvm.OwnW.iconst O83 at_165 (r := (1 : Int32)) rfl (q := 166) rfl ?_
    refine Jvm.OwnW.iload O83 at_166 rfl (q := 168) rfl ?_
    refine Jvm.OwnW.iasA O83 at_168 V_a82 (i := 1) rfl (by decide) (Or.inr N82) (q := 169) rfl ?_
    intro T84 h84 O84 W84
    have V_a82 : Ar Z h84 a82 .int 7 (lf [(.int p5), (.int p5), (.int (0 : Int32)), (.int (0 : Int32)), (.int (0 : Int32)), (.int (0 : Int32)), (.int (0 : Int32))]) := V_a82.setL W84 (by decide) (Nat.le_of_ble_eq_true rfl)
    have V_a49 := V_a49.other W84 ne_a49_a82
    have V_a57 := V_a57.other W84 ne_a57_a82
    have V_a62 := V_a62.other W84 ne_a62_a82
    have V_a70 := V_a70.other W84 ne_a70_a82
    have V_a78 := V_a78.other W84 ne_a78_a82
    refine Jvm.OwnW.dup O84 at_169 rfl (q := 170) rfl ?_
    refine Jvm.OwnW.iconst O84 at_170 (r := (2 : Int32)) rfl (q := 171) rfl ?_
    refine Jvm.OwnW.iload O84 at_171 rfl (q := 173) rfl ?_
    refine Jvm.OwnW.iasA O84 at_173 V_a82 (i := 2) rfl (by decide) (Or.inr N82) (q := 174) rfl ?_
    intro T85 h85 O85 W85
    have V_a82 : Ar Z h85 a82 .int 7 (lf [(.int p5), (.int p5), (.int p5), (.int (0 : Int32)), (.int (0 : Int32)), (.int (0 : Int32)), (.int (0 : Int32))]) := V_a82.setL W85 (by decide) (Nat.le_of_ble_eq_true rfl)
    have V_a49 := V_a49.other W85 ne_a49_a82
    have V_a57 := V_a57.other W85 ne_a57_a82
    have V_a62 := V_a62.other W85 ne_a62_a82
    have V_a70 := V_a70.other W85 ne_a70_a82
    have V_a78 := V_a78.other W85 ne_a78_a82
    refine Jvm.OwnW.dup O85 at_174 rfl (q := 175) rfl ?_
    refine Jvm.OwnW.iconst O85 at_175 (r := (3 : Int32)) rfl (q := 176) rfl ?_
    refine Jvm.OwnW.iload O85 at_176 rfl (q := 178) rfl ?_
    refine Jvm.OwnW.iasA O85 at_178 V_a82 (i := 3) rfl (by decide) (Or.inr N82) (q := 179) rfl ?_
    intro T86 h86 O86 W86
    have V_a82 : Ar Z h86 a82 .int 7 (lf [(.int p5), (.int p5), (.int p5), (.int p5), (.int (0 : Int32)), (.int (0 : Int32)), (.int (0 : Int32))]) := V_a82.setL W86 (by decide) (Nat.le_of_ble_eq_true rfl)
    have V_a49 := V_a49.other W86 ne_a49_a82
    have V_a57 := V_a57.other W86 ne_a57_a82
    have V_a62 := V_a62.other W86 ne_a62_a82
    have V_a70 := V_a70.other W86 ne_a70_a82
    have V_a78 := V_a78.other W86 ne_a78_a82
    refine Jvm.OwnW.dup O86 at_179 rfl (q := 180) rfl ?_
    refine Jvm.OwnW.iconst O86 at_180 (r := (4 : Int32)) rfl (q := 181) rfl ?_
    refine Jvm.OwnW.iload O86 at_181 rfl (q := 183) rfl ?_
    refine Jvm.OwnW.iasA O86 at_183 V_a82 (i := 4) rfl (by decide) (Or.inr N82) (q := 184) rfl ?_
    intro T87 h87 O87 W87
    have V_a82 : Ar Z h87 a82 .int 7 (lf [(.int p5), (.int p5), (.int p5), (.int p5), (.int p5), (.int (0 : Int32)), (.int (0 : Int32))]) := V_a82.setL W87 (by decide) (Nat.le_of_ble_eq_true rfl)
    have V_a49 := V_a49.other W87 ne_a49_a82
    have V_a57 := V_a57.other W87 ne_a57_a82
    have V_a62 := V_a62.other W87 ne_a62_a82
    have V_a70 := V_a70.other W87 ne_a70_a82
    have V_a78 := V_a78.other W87 ne_a78_a82
    refine Jvm.OwnW.dup O87 at_184 rfl (q := 185) rfl ?_
    refine Jvm.OwnW.iconst O87 at_185 (r := (5 : Int32)) rfl (q := 186) rfl ?_
    refine Jvm.OwnW.iload O87 at_186 rfl (q := 188) rfl ?_
    refine Jvm.OwnW.iasA O87 at_188 V_a82 (i := 5) rfl (by decide) (Or.inr N82) (q := 189) rfl ?_
    intro T88 h88 O88 W88
    have V_a82 : Ar Z h88 a82 .int 7 (lf [(.int p5), (.int p5), (.int p5), (.int p5), (.int p5), (.int p5), (.int (0 : Int32))]) := V_a82.setL W88 (by decide) (Nat.le_of_ble_eq_true rfl)
    have V_a49 := V_a49.other W88 ne_a49_a82
    have V_a57 := V_a57.other W88 ne_a57_a82
    have V_a62 := V_a62.other W88 ne_a62_a82
    have V_a70 := V_a70.other W88 ne_a70_a82
    have V_a78 := V_a78.other W88 ne_a78_a82
    refine Jvm.OwnW.dup O88 at_189 rfl (q := 190) rfl ?_
    refine Jvm.OwnW.bipush O88 at_190 (r := (6 : Int32)) rfl (q := 192) rfl ?_
    refine Jvm.OwnW.iload O88 at_192 rfl (q := 194) rfl ?_
    refine Jvm.OwnW.iasA O88 at_194 V_a82 (i := 6) rfl (by decide) (Or.inr N82) (q := 195) rfl ?_
    intro T89 h89 O89 W89
    have V_a82 : Ar Z h89 a82 .int 7 (lf [(.int p5), (.int p5), (.int p5), (.int p5), (.int p5), (.int p5), (.int p5)]) := V_a82.setL W89 (by decide) (Nat.le_of_ble_eq_true rfl)
    have V_a49 := V_a49.other W89 ne_a49_a82
    have V_a57 := V_a57.other W89 ne_a57_a82
    have V_a62 := V_a62.other W89 ne_a62_a82
    have V_a70 := V_a70.other W89 ne_a70_a82
    have V_a78 := V_a78.other W89 ne_a78_a82
    refine Jvm.OwnW.astore O89 at_195 rfl (L' := #[.val (.int p0), .val (.int p1), .val (.int p2), .val (.int p3), .val (.int p4), .val (.int p5), .val (.int (1 : Int32)), .val (.ref a49), .val (.ref a57), .val (.ref a62), .val (.ref a70), .val (.ref a78), .val (.ref a82), .unset, .unset, .unset, .unset, .unset, .unset, .unset, .unset, .unset, .unset, .unset, .unset]) rfl (q := 197) rfl ?_
    refine Jvm.OwnW.newO O89 at_197 (hw _ (List.mem_of_getElem? (i := 2) rfl)) (hw _ (List.mem_of_getElem? (i := 3) rfl)) (hw _ (List.mem_of_getElem? (i := 4) rfl)) (c2 := 7) (s2 := 39) rfl rfl (by decide) (by decide) (q := 200) rfl ?_
    intro a90 T90 h90 g90 N90 O90 X90 E_a90 D90
    have ne_a49_a90 : a49 ≠ a90 := Nat.ne_of_lt (Nat.lt_of_lt_of_le V_a49.lt (Nat.le_of_eq g90.symm))
    have ne_a57_a90 : a57 ≠ a90 := Nat.ne_of_lt (Nat.lt_of_lt_of_le V_a57.lt (Nat.le_of_eq g90.symm))
    have ne_a62_a90 : a62 ≠ a90 := Nat.ne_of_lt (Nat.lt_of_lt_of_le V_a62.lt (Nat.le_of_eq g90.symm))
    have ne_a70_a90 : a70 ≠ a90 := Nat.ne_of_lt (Nat.lt_of_lt_of_le V_a70.lt (Nat.le_of_eq g90.symm))
    have ne_a78_a90 : a78 ≠ a90 := Nat.ne_of_lt (Nat.lt_of_lt_of_le V_a78.lt (Nat.le_of_eq g90.symm))
    have ne_a82_a90 : a82 ≠ a90 := Nat.ne_of_lt (Nat.lt_of_lt_of_le V_a82.lt (Nat.le_of_eq g90.symm))
    have V_a49 := V_a49.ext X90
    have V_a57 := V_a57.ext X90
    have V_a62 := V_a62.ext X90
    have V_a70 := V_a70.ext X90
    have V_a78 := V_a78.ext X90
    have V_a82 := V_a82.ext X90
    have F_routes_a90 : Fld Z h90 a90 "com/example/bidwright/bidwright/game/ClientOptions$RouteList" "routes" "[I" .null := D90 (Or.inr (hw _ (List.mem_of_getElem? (i := 17) rfl))) (ty := (.array .int)) (by decide)
    have F_stayStarts_a90 : Fld Z h90 a90 "com/example/bidwright/bidwright/game/ClientOptions$RouteList" "stayStarts" "[I" .null := D90 (Or.inr (hw _ (List.mem_of_getElem? (i := 19) rfl))) (ty := (.array .int)) (by decide)
    have F_extended_a90 : Fld Z h90 a90 "com/example/bidwright/bidwright/game/ClientOptions$RouteList" "extended" "[I" .null := D90 (Or.inr (hw _ (List.mem_of_getElem? (i := 21) rfl))) (ty := (.array .int)) (by decide)
    have F_added_a90 : Fld Z h90 a90 "com/example/bidwright/bidwright/game/ClientOptions$RouteList" "added" "[I" .null := D90 (Or.inr (hw _ (List.mem_of_getElem? (i := 23) rfl))) (ty := (.array .int)) (by decide)
    refine Jvm.OwnW.dup O90 at_200 rfl (q := 201) rfl ?_
    refine Jvm.OwnW.aload O90 at_201 rfl rfl (q := 203) rfl ?_
    refine Jvm.OwnW.aload O90 at_203 rfl rfl (q := 205) rfl ?_
    refine Jvm.OwnW.aload O90 at_205 rfl rfl (q := 207) rfl ?_
    refine Jvm.OwnW.aload O90 at_207 rfl rfl (q := 209) rfl ?_
    refine Jvm.OwnW.callI O90 (y := (⟨"com/example/bidwright/bidwright/game/ClientOptions$RouteList", "<init>", "([I[I[I[I)V"⟩ : MethodName)) (a := a90) (argsL := [(.ref a49), (.ref a57), (.ref a62), (.ref a70)]) (rest := [(.ref a90)]) at_209 rfl (hw _ (List.mem_of_getElem? (i := 5) rfl)) (hw _ (List.mem_of_getElem? (i := 6) rfl)) (hw _ (List.mem_of_getElem? (i := 4) rfl)) (hw _ (List.mem_of_getElem? (i := 7) rfl)) (by decide) (rm_i l Z a0 hw a90 a49 a57 a62 a70 h90 E_a90 F_routes_a90 F_stayStarts_a90 F_extended_a90 F_added_a90) rfl pd_1 rfl (hst := rfl) (W := 1) (Nat.le_of_eq rfl) (by decide) (by decide) (c2 := 7) (s2 := 39) rfl rfl (by decide) (by decide) (allS (Or.inr N90) all0) (q := 212) rfl ?_
    intro v91 T91 h91 O91 K91 q91
    obtain ⟨rfl, F_routes_a90, F_stayStarts_a90, F_extended_a90, F_added_a90⟩ := q91
    have V_a49 := V_a49.keep K91 (ninS ne_a49_a90 nin0)
    have V_a57 := V_a57.keep K91 (ninS ne_a57_a90 nin0)
    have V_a62 := V_a62.keep K91 (ninS ne_a62_a90 nin0)
    have V_a70 := V_a70.keep K91 (ninS ne_a70_a90 nin0)
    have V_a78 := V_a78.keep K91 (ninS ne_a78_a90 nin0)
    have V_a82 := V_a82.keep K91 (ninS ne_a82_a90 nin0)
    have E_a90 := E_a90.keep K91
    show Go C _ _ _ _ (T91.setTop (mkF C.m 212 #[.val (.int p0), .val (.int p1), .val (.int p2), .val (.int p3), .val (.int p4), .val (.int p5), .val (.int (1 : Int32)), .val (.ref a49), .val (.ref a57), .val (.ref a62), .val (.ref a70), .val (.ref a78), .val (.ref a82), .unset, .unset, .unset, .unset, .unset, .unset, .unset, .unset, .unset, .unset, .unset, .unset] [(.ref a90)]))
    refine Jvm.OwnW.astore O91 at_212 rfl (L' := #[.val (.int p0), .val (.int p1), .val (.int p2), .val (.int p3), .val (.int p4), .val (.int p5), .val (.int (1 : Int32)), .val (.ref a49), .val (.ref a57), .val (.ref a62), .val (.ref a70), .val (.ref a78), .val (.ref a82), .val (.ref a90), .unset, .unset, .unset, .unset, .unset, .unset, .unset, .unset, .unset, .unset, .unset]) rfl (q := 214) rfl ?_
    refine Jvm.OwnW.aload O91 at_214 rfl rfl (q := 216) rfl ?_
    refine Jvm.OwnW.iload O91 at_216 rfl (q := 218) rfl ?_
    refine Jvm.OwnW.iloadN O91 at_218 rfl (q := 219) rfl ?_
    refine Jvm.OwnW.aload O91 at_219 rfl rfl (q := 221) rfl ?_
    refine Jvm.OwnW.aload O91 at_221 rfl rfl (q := 223) rfl ?_
    refine Jvm.OwnW.callV O91 (y := (⟨"com/example/bidwright/bidwright/game/ClientOptions$RouteList", "putUtilities", "(II[I[I)I"⟩ : MethodName)) (z := (⟨"com/example/bidwright/bidwright/game/ClientOptions$RouteList", "putUtilities", "(II[I[I)I"⟩ : MethodName)) (a := a90) (argsL := [(.int (1 : Int32)), (.int p1), (.ref a78), (.ref a82)]) (rest := []) at_223 (hw _ (List.mem_of_getElem? (i := 24) rfl)) (hw _ (List.mem_of_getElem? (i := 25) rfl)) (hw _ (List.mem_of_getElem? (i := 27) rfl)) rfl (hw _ (List.mem_of_getElem? (i := 26) rfl)) (hw _ (List.mem_of_getElem? (i := 4) rfl)) (hw _ (List.mem_of_getElem? (i := 28) rfl)) (by decide) (rm_u1 l Z a0 hw a90 p1 a78 a82 a57 a62 a70 p2 p3 p4 p5 h91 E_a90 F_stayStarts_a90 F_extended_a90 F_added_a90 V_a57 V_a62 V_a70 V_a78 V_a82 (Ne.symm ne_a82_a90) ne_a57_a82 ne_a62_a82 ne_a70_a82 ne_a78_a82) E_a90 rfl pd_2 rfl (hst := rfl) (W := 0) (Nat.le_of_eq rfl) (by decide) (by decide) (c2 := 7) (s2 := 39) rfl rfl (by decide) (by decide) (allS (Or.inr N82) all0) (q := 226) rfl ?_
    intro v92 T92 h92 O92 K92 q92
    obtain ⟨rfl, V_a82⟩ := q92
    have V_a49 := V_a49.keep K92 (ninS ne_a49_a82 nin0)
    have V_a57 := V_a57.keep K92 (ninS ne_a57_a82 nin0)
    have V_a62 := V_a62.keep K92 (ninS ne_a62_a82 nin0)
    have V_a70 := V_a70.keep K92 (ninS ne_a70_a82 nin0)
    have V_a78 := V_a78.keep K92 (ninS ne_a78_a82 nin0)
    have E_a90 := E_a90.keep K92
    have F_routes_a90 := F_routes_a90.keep K92 (ninS (Ne.symm ne_a82_a90) nin0)
    have F_stayStarts_a90 := F_stayStarts_a90.keep K92 (ninS (Ne.symm ne_a82_a90) nin0)
    have F_extended_a90 := F_extended_a90.keep K92 (ninS (Ne.symm ne_a82_a90) nin0)
    have F_added_a90 := F_added_a90.keep K92 (ninS (Ne.symm ne_a82_a90) nin0)
    show Go C _ _ _ _ (T92.setTop (mkF C.m 226 #[.val (.int p0), .val (.int p1), .val (.int p2), .val (.int p3), .val (.int p4), .val (.int p5), .val (.int (1 : Int32)), .val (.ref a49), .val (.ref a57), .val (.ref a62), .val (.ref a70), .val (.ref a78), .val (.ref a82), .val (.ref a90), .unset, .unset, .unset, .unset, .unset, .unset, .unset, .unset, .unset, .unset, .unset] [(.int (fn_m (fn_m (0 : Int32) ((100 : Int32) * p1)) (((100 : Int32) * p1) + ((100 : Int32) * p3))))]))
    refine Jvm.OwnW.istore O92 at_226 (L' := #[.val (.int p0), .val (.int p1), .val (.int p2), .val (.int p3), .val (.int p4), .val (.int p5), .val (.int (1 : Int32)), .val (.ref a49), .val (.ref a57), .val (.ref a62), .val (.ref a70), .val (.ref a78), .val (.ref a82), .val (.ref a90), .val (.int (fn_m (fn_m (0 : Int32) ((100 : Int32) * p1)) (((100 : Int32) * p1) + ((100 : Int32) * p3)))), .unset, .unset, .unset, .unset, .unset, .unset, .unset, .unset, .unset, .unset]) rfl (q := 228) rfl ?_
    refine Jvm.OwnW.bipush O92 at_228 (r := (100 : Int32)) rfl (q := 230) rfl ?_
    refine Jvm.OwnW.iloadN O92 at_230 rfl (q := 231) rfl ?_
    refine Jvm.OwnW.imul O92 at_231 rfl (q := 232) rfl ?_
    refine Jvm.OwnW.istore O92 at_232 (L' := #[.val (.int p0), .val (.int p1), .val (.int p2), .val (.int p3), .val (.int p4), .val (.int p5), .val (.int (1 : Int32)), .val (.ref a49), .val (.ref a57), .val (.ref a62), .val (.ref a70), .val (.ref a78), .val (.ref a82), .val (.ref a90), .val (.int (fn_m (fn_m (0 : Int32) ((100 : Int32) * p1)) (((100 : Int32) * p1) + ((100 : Int32) * p3)))), .val (.int ((100 : Int32) * p1)), .unset, .unset, .unset, .unset, .unset, .unset, .unset, .unset, .unset]) rfl (q := 234) rfl ?_
    refine Jvm.OwnW.iload O92 at_234 rfl (q := 236) rfl ?_
    refine Jvm.OwnW.istore O92 at_236 (L' := #[.val (.int p0), .val (.int p1), .val (.int p2), .val (.int p3), .val (.int p4), .val (.int p5), .val (.int (1 : Int32)), .val (.ref a49), .val (.ref a57), .val (.ref a62), .val (.ref a70), .val (.ref a78), .val (.ref a82), .val (.ref a90), .val (.int (fn_m (fn_m (0 : Int32) ((100 : Int32) * p1)) (((100 : Int32) * p1) + ((100 : Int32) * p3)))), .val (.int ((100 : Int32) * p1)), .val (.int p5), .unset, .unset, .unset, .unset, .unset, .unset, .unset, .unset]) rfl (q := 238) rfl ?_
    refine Jvm.OwnW.iload O92 at_238 rfl (q := 240) rfl ?_
    refine Jvm.OwnW.istore O92 at_240 (L' := #[.val (.int p0), .val (.int p1), .val (.int p2), .val (.int p3), .val (.int p4), .val (.int p5), .val (.int (1 : Int32)), .val (.ref a49), .val (.ref a57), .val (.ref a62), .val (.ref a70), .val (.ref a78), .val (.ref a82), .val (.ref a90), .val (.int (fn_m (fn_m (0 : Int32) ((100 : Int32) * p1)) (((100 : Int32) * p1) + ((100 : Int32) * p3)))), .val (.int ((100 : Int32) * p1)), .val (.int p5), .val (.int p5), .unset, .unset, .unset, .unset, .unset, .unset, .unset]) rfl (q := 242) rfl ?_
    refine Jvm.OwnW.iload O92 at_242 rfl (q := 244) rfl ?_
    refine Jvm.OwnW.istore O92 at_244 (L' := #[.val (.int p0), .val (.int p1), .val (.int p2), .val (.int p3), .val (.int p4), .val (.int p5), .val (.int (1 : Int32)), .val (.ref a49), .val (.ref a57), .val (.ref a62), .val (.ref a70), .val (.ref a78), .val (.ref a82), .val (.ref a90), .val (.int (fn_m (fn_m (0 : Int32) ((100 : Int32) * p1)) (((100 : Int32) * p1) + ((100 : Int32) * p3)))), .val (.int ((100 : Int32) * p1)), .val (.int p5), .val (.int p5), .val (.int p5), .unset, .unset, .unset, .unset, .unset, .unset]) rfl (q := 246) rfl ?_
    refine Jvm.OwnW.iload O92 at_246 rfl (q := 248) rfl ?_
    refine Jvm.OwnW.istore O92 at_248 (L' := #[.val (.int p0), .val (.int p1), .val (.int p2), .val (.int p3), .val (.int p4), .val (.int p5), .val (.int (1 : Int32)), .val (.ref a49), .val (.ref a57), .val (.ref a62), .val (.ref a70), .val (.ref a78), .val (.ref a82), .val (.ref a90), .val (.int (fn_m (fn_m (0 : Int32) ((100 : Int32) * p1)) (((100 : Int32) * p1) + ((100 : Int32) * p3)))), .val (.int ((100 : Int32) * p1)), .val (.int p5), .val (.int p5), .val (.int p5), .val (.int p5), .unset, .unset, .unset, .unset, .unset]) rfl (q := 250) rfl ?_
    refine Jvm.OwnW.iload O92 at_250 rfl (q := 252) rfl ?_
    refine Jvm.OwnW.istore O92 at_252 (L' := #[.val (.int p0), .val (.int p1), .val (.int p2), .val (.int p3), .val (.int p4), .val (.int p5), .val (.int (1 : Int32)), .val (.ref a49), .val (.ref a57), .val (.ref a62), .val (.ref a70), .val (.ref a78), .val (.ref a82), .val (.ref a90), .val (.int (fn_m (fn_m (0 : Int32) ((100 : Int32) * p1)) (((100 : Int32) * p1) + ((100 : Int32) * p3)))), .val (.int ((100 : Int32) * p1)), .val (.int p5), .val (.int p5), .val (.int p5), .val (.int p5), .val (.int p5), .unset, .unset, .unset, .unset]) rfl (q := 254) rfl ?_
    refine Jvm.OwnW.iload O92 at_254 rfl (q := 256) rfl ?_
    refine Jvm.OwnW.istore O92 at_256 (L' := #[.val (.int p0), .val (.int p1), .val (.int p2), .val (.int p3), .val (.int p4), .val (.int p5), .val (.int (1 : Int32)), .val (.ref a49), .val (.ref a57), .val (.ref a62), .val (.ref a70), .val (.ref a78), .val (.ref a82), .val (.ref a90), .val (.int (fn_m (fn_m (0 : Int32) ((100 : Int32) * p1)) (((100 : Int32) * p1) + ((100 : Int32) * p3)))), .val (.int ((100 : Int32) * p1)), .val (.int p5), .val (.int p5), .val (.int p5), .val (.int p5), .val (.int p5), .val (.int p5), .unset, .unset, .unset]) rfl (q := 258) rfl ?_
    refine Jvm.OwnW.iconst O92 at_258 (r := (0 : Int32)) rfl (q := 259) rfl ?_
    refine Jvm.OwnW.istore O92 at_259 (L' := #[.val (.int p0), .val (.int p1), .val (.int p2), .val (.int p3), .val (.int p4), .val (.int p5), .val (.int (1 : Int32)), .val (.ref a49), .val (.ref a57), .val (.ref a62), .val (.ref a70), .val (.ref a78), .val (.ref a82), .val (.ref a90), .val (.int (fn_m (fn_m (0 : Int32) ((100 : Int32) * p1)) (((100 : Int32) * p1) + ((100 : Int32) * p3)))), .val (.int ((100 : Int32) * p1)), .val (.int p5), .val (.int p5), .val (.int p5), .val (.int p5), .val (.int p5), .val (.int p5), .val (.int (0 : Int32)), .unset, .unset]) rfl (q := 261) rfl ?_
    refine Jvm.OwnW.iload O92 at_261 rfl (q := 263) rfl ?_
    refine Jvm.OwnW.ifYes O92 at_263 (feq0 (show ¬ ((1 : Int32) = (0 : Int32)) from (by decide))).2 (by decide) (q := 324) rfl ?_
    refine Jvm.OwnW.iload O92 at_324 rfl (q := 326) rfl ?_
    refine Jvm.OwnW.iconst O92 at_326 (r := (1 : Int32)) rfl (q := 327) rfl ?_
    refine Jvm.OwnW.icmpNo O92 at_327 (teq (show (1 : Int32) = (1 : Int32) from (by decide))).2 (q := 330) rfl ?_
    refine Jvm.OwnW.iload O92 at_330 rfl (q := 332) rfl ?_
    refine Jvm.OwnW.istore O92 at_332 (L' := #[.val (.int p0), .val (.int p1), .val (.int p2), .val (.int p3), .val (.int p4), .val (.int p5), .val (.int (1 : Int32)), .val (.ref a49), .val (.ref a57), .val (.ref a62), .val (.ref a70), .val (.ref a78), .val (.ref a82), .val (.ref a90), .val (.int (fn_m (fn_m (0 : Int32) ((100 : Int32) * p1)) (((100 : Int32) * p1) + ((100 : Int32) * p3)))), .val (.int ((100 : Int32) * p1)), .val (.int p5), .val (.int p5), .val (.int p5), .val (.int p5), .val (.int ((100 : Int32) * p1)), .val (.int p5), .val (.int (0 : Int32)), .unset, .unset]) rfl (q := 334) rfl ?_
    refine Jvm.OwnW.iload O92 at_334 rfl (q := 336) rfl ?_
    refine Jvm.OwnW.bipush O92 at_336 (r := (100 : Int32)) rfl (q := 338) rfl ?_
    refine Jvm.OwnW.iloadN O92 at_338 rfl (q := 339) rfl ?_
    refine Jvm.OwnW.imul O92 at_339 rfl (q := 340) rfl ?_
    refine Jvm.OwnW.iadd O92 at_340 rfl (q := 341) rfl ?_
    refine Jvm.OwnW.istore O92 at_341 (L' := #[.val (.int p0), .val (.int p1), .val (.int p2), .val (.int p3), .val (.int p4), .val (.int p5), .val (.int (1 : Int32)), .val (.ref a49), .val (.ref a57), .val (.ref a62), .val (.ref a70), .val (.ref a78), .val (.ref a82), .val (.ref a90), .val (.int (fn_m (fn_m (0 : Int32) ((100 : Int32) * p1)) (((100 : Int32) * p1) + ((100 : Int32) * p3)))), .val (.int ((100 : Int32) * p1)), .val (.int p5), .val (.int p5), .val (.int p5), .val (.int p5), .val (.int ((100 : Int32) * p1)), .val (.int (((100 : Int32) * p1) + ((100 : Int32) * p3))), .val (.int (0 : Int32)), .unset, .unset]) rfl (q := 343) rfl ?_
    refine Jvm.OwnW.iconst O92 at_343 (r := (0 : Int32)) rfl (q := 344) rfl ?_
    refine Jvm.OwnW.iload O92 at_344 rfl (q := 346) rfl ?_
    refine Jvm.OwnW.callS0 O92 (y := (⟨"java/lang/Math", "max", "(II)I"⟩ : MethodName)) (argsL := [(.int (0 : Int32)), (.int ((100 : Int32) * p1))]) (rest := []) at_346 (hw _ (List.mem_of_getElem? (i := 29) rfl)) (hw _ (List.mem_of_getElem? (i := 30) rfl)) (hw _ (List.mem_of_getElem? (i := 31) rfl)) (hw _ (List.mem_of_getElem? (i := 32) rfl)) (by decide) (rm_m l Z a0 hw (0 : Int32) ((100 : Int32) * p1) h92) rfl pd_3 rfl (hst := rfl) (W := 0) (Nat.le_of_eq rfl) (by decide) (by decide) (c2 := 7) (s2 := 39) rfl rfl (by decide) (by decide) rfl rfl (q := 349) rfl ?_
    intro v93 T93 O93 q93
    obtain rfl := q93
    show Go C _ _ _ _ (T93.setTop (mkF C.m 349 #[.val (.int p0), .val (.int p1), .val (.int p2), .val (.int p3), .val (.int p4), .val (.int p5), .val (.int (1 : Int32)), .val (.ref a49), .val (.ref a57), .val (.ref a62), .val (.ref a70), .val (.ref a78), .val (.ref a82), .val (.ref a90), .val (.int (fn_m (fn_m (0 : Int32) ((100 : Int32) * p1)) (((100 : Int32) * p1) + ((100 : Int32) * p3)))), .val (.int ((100 : Int32) * p1)), .val (.int p5), .val (.int p5), .val (.int p5), .val (.int p5), .val (.int ((100 : Int32) * p1)), .val (.int (((100 : Int32) * p1) + ((100 : Int32) * p3))), .val (.int (0 : Int32)), .unset, .unset] [(.int (fn_m (0 : Int32) ((100 : Int32) * p1)))]))
    refine Jvm.OwnW.iload O93 at_349 rfl (q := 351) rfl ?_
    refine Jvm.OwnW.callS0 O93 (y := (⟨"java/lang/Math", "max", "(II)I"⟩ : MethodName)) (argsL := [(.int (fn_m (0 : Int32) ((100 : Int32) * p1))), (.int (((100 : Int32) * p1) + ((100 : Int32) * p3)))]) (rest := []) at_351 (hw _ (List.mem_of_getElem? (i := 29) rfl)) (hw _ (List.mem_of_getElem? (i := 30) rfl)) (hw _ (List.mem_of_getElem? (i := 31) rfl)) (hw _ (List.mem_of_getElem? (i := 32) rfl)) (by decide) (rm_m l Z a0 hw (fn_m (0 : Int32) ((100 : Int32) * p1)) (((100 : Int32) * p1) + ((100 : Int32) * p3)) h92) rfl pd_3 rfl (hst := rfl) (W := 0) (Nat.le_of_eq rfl) (by decide) (by decide) (c2 := 7) (s2 := 39) rfl rfl (by decide) (by decide) rfl rfl (q := 354) rfl ?_
    intro v94 T94 O94 q94
    obtain rfl := q94
    show Go C _ _ _ _ (T94.setTop (mkF C.m 354 #[.val (.int p0), .val (.int p1), .val (.int p2), .val (.int p3), .val (.int p4), .val (.int p5), .val (.int (1 : Int32)), .val (.ref a49), .val (.ref a57), .val (.ref a62), .val (.ref a70), .val (.ref a78), .val (.ref a82), .val (.ref a90), .val (.int (fn_m (fn_m (0 : Int32) ((100 : Int32) * p1)) (((100 : Int32) * p1) + ((100 : Int32) * p3)))), .val (.int ((100 : Int32) * p1)), .val (.int p5), .val (.int p5), .val (.int p5), .val (.int p5), .val (.int ((100 : Int32) * p1)), .val (.int (((100 : Int32) * p1) + ((100 : Int32) * p3))), .val (.int (0 : Int32)), .unset, .unset] [(.int (fn_m (fn_m (0 : Int32) ((100 : Int32) * p1)) (((100 : Int32) * p1) + ((100 : Int32) * p3))))]))
    refine Jvm.OwnW.istore O94 at_354 (L' := #[.val (.int p0), .val (.int p1), .val (.int p2), .val (.int p3), .val (.int p4), .val (.int p5), .val (.int (1 : Int32)), .val (.ref a49), .val (.ref a57), .val (.ref a62), .val (.ref a70), .val (.ref a78), .val (.ref a82), .val (.ref a90), .val (.int (fn_m (fn_m (0 : Int32) ((100 : Int32) * p1)) (((100 : Int32) * p1) + ((100 : Int32) * p3)))), .val (.int ((100 : Int32) * p1)), .val (.int p5), .val (.int p5), .val (.int p5), .val (.int p5), .val (.int ((100 : Int32) * p1)), .val (.int (((100 : Int32) * p1) + ((100 : Int32) * p3))), .val (.int (fn_m (fn_m (0 : Int32) ((100 : Int32) * p1)) (((100 : Int32) * p1) + ((100 : Int32) * p3)))), .unset, .unset]) rfl (q := 356) rfl ?_
    refine Jvm.OwnW.aload O94 at_356 rfl rfl (q := 358) rfl ?_
    refine Jvm.OwnW.iconst O94 at_358 (r := (0 : Int32)) rfl (q := 359) rfl ?_
    refine Jvm.OwnW.ialA O94 at_359 V_a82 (i := 0) rfl (by decide) (v := (.int p5)) rfl (q := 360) rfl ?_
    refine Jvm.OwnW.iload O94 at_360 rfl (q := 362) rfl ?_
    refine Jvm.OwnW.icmpNo O94 at_362 (teq (show p5 = p5 from rfl)).2 (q := 365) rfl ?_
    refine Jvm.OwnW.aload O94 at_365 rfl rfl (q := 367) rfl ?_
    refine Jvm.OwnW.iconst O94 at_367 (r := (1 : Int32)) rfl (q := 368) rfl ?_
    refine Jvm.OwnW.ialA O94 at_368 V_a82 (i := 1) rfl (by decide) (v := (.int p5)) rfl (q := 369) rfl ?_
    refine Jvm.OwnW.iload O94 at_369 rfl (q := 371) rfl ?_
    refine Jvm.OwnW.icmpNo O94 at_371 (teq (show p5 = p5 from rfl)).2 (q := 374) rfl ?_
    refine Jvm.OwnW.aload O94 at_374 rfl rfl (q := 376) rfl ?_
    refine Jvm.OwnW.iconst O94 at_376 (r := (2 : Int32)) rfl (q := 377) rfl ?_
    refine Jvm.OwnW.ialA O94 at_377 V_a82 (i := 2) rfl (by decide) (v := (.int p5)) rfl (q := 378) rfl ?_
    refine Jvm.OwnW.iload O94 at_378 rfl (q := 380) rfl ?_
    refine Jvm.OwnW.icmpNo O94 at_380 (teq (show p5 = p5 from rfl)).2 (q := 383) rfl ?_
    refine Jvm.OwnW.aload O94 at_383 rfl rfl (q := 385) rfl ?_
    refine Jvm.OwnW.iconst O94 at_385 (r := (3 : Int32)) rfl (q := 386) rfl ?_
    refine Jvm.OwnW.ialA O94 at_386 V_a82 (i := 3) rfl (by decide) (v := (.int p5)) rfl (q := 387) rfl ?_
    refine Jvm.OwnW.iload O94 at_387 rfl (q := 389) rfl ?_
    refine Jvm.OwnW.icmpNo O94 at_389 (teq (show p5 = p5 from rfl)).2 (q := 392) rfl ?_
    refine Jvm.OwnW.aload O94 at_392 rfl rfl (q := 394) rfl ?_
    refine Jvm.OwnW.iconst O94 at_394 (r := (4 : Int32)) rfl (q := 395) rfl ?_
    refine Jvm.OwnW.ialA O94 at_395 V_a82 (i := 4) rfl (by decide) (v := (.int ((100 : Int32) * p1))) rfl (q := 396) rfl ?_
    refine Jvm.OwnW.iload O94 at_396 rfl (q := 398) rfl ?_
    refine Jvm.OwnW.icmpNo O94 at_398 (teq (show ((100 : Int32) * p1) = ((100 : Int32) * p1) from rfl)).2 (q := 401) rfl ?_
    refine Jvm.OwnW.aload O94 at_401 rfl rfl (q := 403) rfl ?_
    refine Jvm.OwnW.iconst O94 at_403 (r := (5 : Int32)) rfl (q := 404) rfl ?_
    refine Jvm.OwnW.ialA O94 at_404 V_a82 (i := 5) rfl (by decide) (v := (.int (((100 : Int32) * p1) + ((100 : Int32) * p3)))) rfl (q := 405) rfl ?_
    refine Jvm.OwnW.iload O94 at_405 rfl (q := 407) rfl ?_
    refine Jvm.OwnW.icmpNo O94 at_407 (teq (show (((100 : Int32) * p1) + ((100 : Int32) * p3)) = (((100 : Int32) * p1) + ((100 : Int32) * p3)) from rfl)).2 (q := 410) rfl ?_
    refine Jvm.OwnW.aload O94 at_410 rfl rfl (q := 412) rfl ?_
    refine Jvm.OwnW.bipush O94 at_412 (r := (6 : Int32)) rfl (q := 414) rfl ?_
    refine Jvm.OwnW.ialA O94 at_414 V_a82 (i := 6) rfl (by decide) (v := (.int p5)) rfl (q := 415) rfl ?_
    refine Jvm.OwnW.iload O94 at_415 rfl (q := 417) rfl ?_
    refine Jvm.OwnW.icmpNo O94 at_417 (teq (show p5 = p5 from rfl)).2 (q := 420) rfl ?_
    refine Jvm.OwnW.iconst O94 at_420 (r := (1 : Int32)) rfl (q := 421) rfl ?_
    refine Jvm.OwnW.goto O94 at_421 (by decide) (q := 425) rfl ?_
    refine Jvm.OwnW.istore O94 at_425 (L' := #[.val (.int p0), .val (.int p1), .val (.int p2), .val (.int p3), .val (.int p4), .val (.int p5), .val (.int (1 : Int32)), .val (.ref a49), .val (.ref a57), .val (.ref a62), .val (.ref a70), .val (.ref a78), .val (.ref a82), .val (.ref a90), .val (.int (fn_m (fn_m (0 : Int32) ((100 : Int32) * p1)) (((100 : Int32) * p1) + ((100 : Int32) * p3)))), .val (.int ((100 : Int32) * p1)), .val (.int p5), .val (.int p5), .val (.int p5), .val (.int p5), .val (.int ((100 : Int32) * p1)), .val (.int (((100 : Int32) * p1) + ((100 : Int32) * p3))), .val (.int (fn_m (fn_m (0 : Int32) ((100 : Int32) * p1)) (((100 : Int32) * p1) + ((100 : Int32) * p3)))), .val (.int (1 : Int32)), .unset]) rfl (q := 427) rfl ?_
    refine Jvm.OwnW.aload O94 at_427 rfl rfl (q := 429) rfl ?_
    refine Jvm.OwnW.iconst O94 at_429 (r := (0 : Int32)) rfl (q := 430) rfl ?_
    refine Jvm.OwnW.ialA O94 at_430 V_a78 (i := 0) rfl (by decide) (v := (.int p2)) rfl (q := 431) rfl ?_
    refine Jvm.OwnW.iloadN O94 at_431 rfl (q := 432) rfl ?_
    refine Jvm.OwnW.icmpNo O94 at_432 (teq (show p2 = p2 from rfl)).2 (q := 435) rfl ?_
    refine Jvm.OwnW.aload O94 at_435 rfl rfl (q := 437) rfl ?_
    refine Jvm.OwnW.iconst O94 at_437 (r := (1 : Int32)) rfl (q := 438) rfl ?_
    refine Jvm.OwnW.ialA O94 at_438 V_a78 (i := 1) rfl (by decide) (v := (.int p3)) rfl (q := 439) rfl ?_
    refine Jvm.OwnW.iloadN O94 at_439 rfl (q := 440) rfl ?_
    refine Jvm.OwnW.icmpNo O94 at_440 (teq (show p3 = p3 from rfl)).2 (q := 443) rfl ?_
    refine Jvm.OwnW.aload O94 at_443 rfl rfl (q := 445) rfl ?_
    refine Jvm.OwnW.iconst O94 at_445 (r := (2 : Int32)) rfl (q := 446) rfl ?_
    refine Jvm.OwnW.ialA O94 at_446 V_a78 (i := 2) rfl (by decide) (v := (.int p4)) rfl (q := 447) rfl ?_
    refine Jvm.OwnW.iload O94 at_447 rfl (q := 449) rfl ?_
    refine Jvm.OwnW.icmpNo O94 at_449 (teq (show p4 = p4 from rfl)).2 (q := 452) rfl ?_
    refine Jvm.OwnW.iconst O94 at_452 (r := (1 : Int32)) rfl (q := 453) rfl ?_
    refine Jvm.OwnW.goto O94 at_453 (by decide) (q := 457) rfl ?_
    refine Jvm.OwnW.istore O94 at_457 (L' := #[.val (.int p0), .val (.int p1), .val (.int p2), .val (.int p3), .val (.int p4), .val (.int p5), .val (.int (1 : Int32)), .val (.ref a49), .val (.ref a57), .val (.ref a62), .val (.ref a70), .val (.ref a78), .val (.ref a82), .val (.ref a90), .val (.int (fn_m (fn_m (0 : Int32) ((100 : Int32) * p1)) (((100 : Int32) * p1) + ((100 : Int32) * p3)))), .val (.int ((100 : Int32) * p1)), .val (.int p5), .val (.int p5), .val (.int p5), .val (.int p5), .val (.int ((100 : Int32) * p1)), .val (.int (((100 : Int32) * p1) + ((100 : Int32) * p3))), .val (.int (fn_m (fn_m (0 : Int32) ((100 : Int32) * p1)) (((100 : Int32) * p1) + ((100 : Int32) * p3)))), .val (.int (1 : Int32)), .val (.int (1 : Int32))]) rfl (q := 459) rfl ?_
    refine Jvm.OwnW.iload O94 at_459 rfl (q := 461) rfl ?_
    refine Jvm.OwnW.iload O94 at_461 rfl (q := 463) rfl ?_
    refine Jvm.OwnW.icmpNo O94 at_463 (teq (show (fn_m (fn_m (0 : Int32) ((100 : Int32) * p1)) (((100 : Int32) * p1) + ((100 : Int32) * p3))) = (fn_m (fn_m (0 : Int32) ((100 : Int32) * p1)) (((100 : Int32) * p1) + ((100 : Int32) * p3))) from rfl)).2 (q := 466) rfl ?_
    refine Jvm.OwnW.iload O94 at_466 rfl (q := 468) rfl ?_
    refine Jvm.OwnW.ifNo O94 at_468 (feq0 (show ¬ ((1 : Int32) = (0 : Int32)) from (by decide))).1 (q := 471) rfl ?_
    refine Jvm.OwnW.iload O94 at_471 rfl (q := 473) rfl ?_
    refine Jvm.OwnW.ifNo O94 at_473 (feq0 (show ¬ ((1 : Int32) = (0 : Int32)) from (by decide))).1 (q := 476) rfl ?_
    refine Jvm.OwnW.iconst O94 at_476 (r := (1 : Int32)) rfl (q := 477) rfl ?_
    refine Jvm.OwnW.goto O94 at_477 (by decide) (q := 481) rfl ?_
    exact Jvm.OwnW.retB O94 at_481 rfl (Or.inr rfl) (by decide) (by decide) rfl
  · skip
    refine Jvm.OwnW.istore O at_6 (L' := #[.val (.int p0), .val (.int p1), .val (.int p2), .val (.int p3), .val (.int p4), .val (.int p5), .val (.int (2 : Int32)), .unset, .unset, .unset, .unset, .unset, .unset, .unset, .unset, .unset, .unset, .unset, .unset, .unset, .unset, .unset, .unset, .unset, .unset]) rfl (q := 8) rfl ?_
    refine Jvm.OwnW.bipush O at_8 (r := (7 : Int32)) rfl (q := 10) rfl ?_
    refine Jvm.OwnW.newA' O at_10 (ty := .int) rfl (hw _ (List.mem_of_getElem? (i := 1) rfl)) (N := 7) rfl (cap := 7) (by decide) (by decide) (c2 := 1) (s2 := 7) rfl rfl (by decide) (by decide) (q := 12) rfl ?_
    intro a95 T95 h95 g95 N95 O95 X95 V_a95
    have V_a95 : Ar Z h95 a95 .int 7 (lf [(.int (0 : Int32)), (.int (0 : Int32)), (.int (0 : Int32)), (.int (0 : Int32)), (.int (0 : Int32)), (.int (0 : Int32)), (.int (0 : Int32))]) := V_a95.congr (lf_rep 7 _)
    refine Jvm.OwnW.dup O95 at_12 rfl (q := 13) rfl ?_
    refine Jvm.OwnW.iconst O95 at_13 (r := (0 : Int32)) rfl (q := 14) rfl ?_
    refine Jvm.OwnW.iconst O95 at_14 (r := (0 : Int32)) rfl (q := 15) rfl ?_
    refine Jvm.OwnW.iasA O95 at_15 V_a95 (i := 0) rfl (by decide) (Or.inr N95) (q := 16) rfl ?_
    intro T96 h96 O96 W96
    have V_a95 : Ar Z h96 a95 .int 7 (lf [(.int (0 : Int32)), (.int (0 : Int32)), (.int (0 : Int32)), (.int (0 : Int32)), (.int (0 : Int32)), (.int (0 : Int32)), (.int (0 : Int32))]) := V_a95.setL W96 (by decide) (Nat.le_of_ble_eq_true rfl)
    refine Jvm.OwnW.dup O96 at_16 rfl (q := 17) rfl ?_
    refine Jvm.OwnW.iconst O96 at_17 (r := (1 : Int32)) rfl (q := 18) rfl ?_
    refine Jvm.OwnW.iconst O96 at_18 (r := (1 : Int32)) rfl (q := 19) rfl ?_
    refine Jvm.OwnW.iasA O96 at_19 V_a95 (i := 1) rfl (by decide) (Or.inr N95) (q := 20) rfl ?_
    intro T97 h97 O97 W97
    have V_a95 : Ar Z h97 a95 .int 7 (lf [(.int (0 : Int32)), (.int (1 : Int32)), (.int (0 : Int32)), (.int (0 : Int32)), (.int (0 : Int32)), (.int (0 : Int32)), (.int (0 : Int32))]) := V_a95.setL W97 (by decide) (Nat.le_of_ble_eq_true rfl)
    refine Jvm.OwnW.dup O97 at_20 rfl (q := 21) rfl ?_
    refine Jvm.OwnW.iconst O97 at_21 (r := (2 : Int32)) rfl (q := 22) rfl ?_
    refine Jvm.OwnW.iconst O97 at_22 (r := (2 : Int32)) rfl (q := 23) rfl ?_
    refine Jvm.OwnW.iasA O97 at_23 V_a95 (i := 2) rfl (by decide) (Or.inr N95) (q := 24) rfl ?_
    intro T98 h98 O98 W98
    have V_a95 : Ar Z h98 a95 .int 7 (lf [(.int (0 : Int32)), (.int (1 : Int32)), (.int (2 : Int32)), (.int (0 : Int32)), (.int (0 : Int32)), (.int (0 : Int32)), (.int (0 : Int32))]) := V_a95.setL W98 (by decide) (Nat.le_of_ble_eq_true rfl)
    refine Jvm.OwnW.dup O98 at_24 rfl (q := 25) rfl ?_
    refine Jvm.OwnW.iconst O98 at_25 (r := (3 : Int32)) rfl (q := 26) rfl ?_
    refine Jvm.OwnW.iconst O98 at_26 (r := (3 : Int32)) rfl (q := 27) rfl ?_
    refine Jvm.OwnW.iasA O98 at_27 V_a95 (i := 3) rfl (by decide) (Or.inr N95) (q := 28) rfl ?_
    intro T99 h99 O99 W99
    have V_a95 : Ar Z h99 a95 .int 7 (lf [(.int (0 : Int32)), (.int (1 : Int32)), (.int (2 : Int32)), (.int (3 : Int32)), (.int (0 : Int32)), (.int (0 : Int32)), (.int (0 : Int32))]) := V_a95.setL W99 (by decide) (Nat.le_of_ble_eq_true rfl)
    refine Jvm.OwnW.dup O99 at_28 rfl (q := 29) rfl ?_
    refine Jvm.OwnW.iconst O99 at_29 (r := (4 : Int32)) rfl (q := 30) rfl ?_
    refine Jvm.OwnW.iconst O99 at_30 (r := (4 : Int32)) rfl (q := 31) rfl ?_
    refine Jvm.OwnW.iasA O99 at_31 V_a95 (i := 4) rfl (by decide) (Or.inr N95) (q := 32) rfl ?_
    intro T100 h100 O100 W100
    have V_a95 : Ar Z h100 a95 .int 7 (lf [(.int (0 : Int32)), (.int (1 : Int32)), (.int (2 : Int32)), (.int (3 : Int32)), (.int (4 : Int32)), (.int (0 : Int32)), (.int (0 : Int32))]) := V_a95.setL W100 (by decide) (Nat.le_of_ble_eq_true rfl)
    refine Jvm.OwnW.dup O100 at_32 rfl (q := 33) rfl ?_
    refine Jvm.OwnW.iconst O100 at_33 (r := (5 : Int32)) rfl (q := 34) rfl ?_
    refine Jvm.OwnW.iconst O100 at_34 (r := (5 : Int32)) rfl (q := 35) rfl ?_
    refine Jvm.OwnW.iasA O100 at_35 V_a95 (i := 5) rfl (by decide) (Or.inr N95) (q := 36) rfl ?_
    intro T101 h101 O101 W101
    have V_a95 : Ar Z h101 a95 .int 7 (lf [(.int (0 : Int32)), (.int (1 : Int32)), (.int (2 : Int32)), (.int (3 : Int32)), (.int (4 : Int32)), (.int (5 : Int32)), (.int (0 : Int32))]) := V_a95.setL W101 (by decide) (Nat.le_of_ble_eq_true rfl)
    refine Jvm.OwnW.dup O101 at_36 rfl (q := 37) rfl ?_
    refine Jvm.OwnW.bipush O101 at_37 (r := (6 : Int32)) rfl (q := 39) rfl ?_
    refine Jvm.OwnW.bipush O101 at_39 (r := (6 : Int32)) rfl (q := 41) rfl ?_
    refine Jvm.OwnW.iasA O101 at_41 V_a95 (i := 6) rfl (by decide) (Or.inr N95) (q := 42) rfl ?_
    intro T102 h102 O102 W102
    have V_a95 : Ar Z h102 a95 .int 7 (lf [(.int (0 : Int32)), (.int (1 : Int32)), (.int (2 : Int32)), (.int (3 : Int32)), (.int (4 : Int32)), (.int (5 : Int32)), (.int (6 : Int32))]) := V_a95.setL W102 (by decide) (Nat.le_of_ble_eq_true rfl)
    refine Jvm.OwnW.astore O102 at_42 rfl (L' := #[.val (.int p0), .val (.int p1), .val (.int p2), .val (.int p3), .val (.int p4), .val (.int p5), .val (.int (2 : Int32)), .val (.ref a95), .unset, .unset, .unset, .unset, .unset, .unset, .unset, .unset, .unset, .unset, .unset, .unset, .unset, .unset, .unset, .unset, .unset]) rfl (q := 44) rfl ?_
    refine Jvm.OwnW.iconst O102 at_44 (r := (4 : Int32)) rfl (q := 45) rfl ?_
    refine Jvm.OwnW.newA' O102 at_45 (ty := .int) rfl (hw _ (List.mem_of_getElem? (i := 1) rfl)) (N := 4) rfl (cap := 4) (by decide) (by decide) (c2 := 2) (s2 := 11) rfl rfl (by decide) (by decide) (q := 47) rfl ?_
    intro a103 T103 h103 g103 N103 O103 X103 V_a103
    have ne_a95_a103 : a95 ≠ a103 := Nat.ne_of_lt (Nat.lt_of_lt_of_le V_a95.lt (Nat.le_of_eq g103.symm))
    have V_a95 := V_a95.ext X103
    have V_a103 : Ar Z h103 a103 .int 4 (lf [(.int (0 : Int32)), (.int (0 : Int32)), (.int (0 : Int32)), (.int (0 : Int32))]) := V_a103.congr (lf_rep 4 _)
    refine Jvm.OwnW.dup O103 at_47 rfl (q := 48) rfl ?_
    refine Jvm.OwnW.iconst O103 at_48 (r := (0 : Int32)) rfl (q := 49) rfl ?_
    refine Jvm.OwnW.iconst O103 at_49 (r := (0 : Int32)) rfl (q := 50) rfl ?_
    refine Jvm.OwnW.iasA O103 at_50 V_a103 (i := 0) rfl (by decide) (Or.inr N103) (q := 51) rfl ?_
    intro T104 h104 O104 W104
    have V_a103 : Ar Z h104 a103 .int 4 (lf [(.int (0 : Int32)), (.int (0 : Int32)), (.int (0 : Int32)), (.int (0 : Int32))]) := V_a103.setL W104 (by decide) (Nat.le_of_ble_eq_true rfl)
    have V_a95 := V_a95.other W104 ne_a95_a103
    refine Jvm.OwnW.dup O104 at_51 rfl (q := 52) rfl ?_
    refine Jvm.OwnW.iconst O104 at_52 (r := (1 : Int32)) rfl (q := 53) rfl ?_
    refine Jvm.OwnW.iconst O104 at_53 (r := (4 : Int32)) rfl (q := 54) rfl ?_
    refine Jvm.OwnW.iasA O104 at_54 V_a103 (i := 1) rfl (by decide) (Or.inr N103) (q := 55) rfl ?_
    intro T105 h105 O105 W105
    have V_a103 : Ar Z h105 a103 .int 4 (lf [(.int (0 : Int32)), (.int (4 : Int32)), (.int (0 : Int32)), (.int (0 : Int32))]) := V_a103.setL W105 (by decide) (Nat.le_of_ble_eq_true rfl)
    have V_a95 := V_a95.other W105 ne_a95_a103
    refine Jvm.OwnW.dup O105 at_55 rfl (q := 56) rfl ?_
    refine Jvm.OwnW.iconst O105 at_56 (r := (2 : Int32)) rfl (q := 57) rfl ?_
    refine Jvm.OwnW.bipush O105 at_57 (r := (6 : Int32)) rfl (q := 59) rfl ?_
    refine Jvm.OwnW.iasA O105 at_59 V_a103 (i := 2) rfl (by decide) (Or.inr N103) (q := 60) rfl ?_
    intro T106 h106 O106 W106
    have V_a103 : Ar Z h106 a103 .int 4 (lf [(.int (0 : Int32)), (.int (4 : Int32)), (.int (6 : Int32)), (.int (0 : Int32))]) := V_a103.setL W106 (by decide) (Nat.le_of_ble_eq_true rfl)
    have V_a95 := V_a95.other W106 ne_a95_a103
    refine Jvm.OwnW.dup O106 at_60 rfl (q := 61) rfl ?_
    refine Jvm.OwnW.iconst O106 at_61 (r := (3 : Int32)) rfl (q := 62) rfl ?_
    refine Jvm.OwnW.bipush O106 at_62 (r := (6 : Int32)) rfl (q := 64) rfl ?_
    refine Jvm.OwnW.iasA O106 at_64 V_a103 (i := 3) rfl (by decide) (Or.inr N103) (q := 65) rfl ?_
    intro T107 h107 O107 W107
    have V_a103 : Ar Z h107 a103 .int 4 (lf [(.int (0 : Int32)), (.int (4 : Int32)), (.int (6 : Int32)), (.int (6 : Int32))]) := V_a103.setL W107 (by decide) (Nat.le_of_ble_eq_true rfl)
    have V_a95 := V_a95.other W107 ne_a95_a103
    refine Jvm.OwnW.astore O107 at_65 rfl (L' := #[.val (.int p0), .val (.int p1), .val (.int p2), .val (.int p3), .val (.int p4), .val (.int p5), .val (.int (2 : Int32)), .val (.ref a95), .val (.ref a103), .unset, .unset, .unset, .unset, .unset, .unset, .unset, .unset, .unset, .unset, .unset, .unset, .unset, .unset, .unset, .unset]) rfl (q := 67) rfl ?_
    refine Jvm.OwnW.bipush O107 at_67 (r := (7 : Int32)) rfl (q := 69) rfl ?_
    refine Jvm.OwnW.newA' O107 at_69 (ty := .int) rfl (hw _ (List.mem_of_getElem? (i := 1) rfl)) (N := 7) rfl (cap := 7) (by decide) (by decide) (c2 := 3) (s2 := 18) rfl rfl (by decide) (by decide) (q := 71) rfl ?_
    intro a108 T108 h108 g108 N108 O108 X108 V_a108
    have ne_a95_a108 : a95 ≠ a108 := Nat.ne_of_lt (Nat.lt_of_lt_of_le V_a95.lt (Nat.le_of_eq g108.symm))
    have ne_a103_a108 : a103 ≠ a108 := Nat.ne_of_lt (Nat.lt_of_lt_of_le V_a103.lt (Nat.le_of_eq g108.symm))
    have V_a95 := V_a95.ext X108
    have V_a103 := V_a103.ext X108
    have V_a108 : Ar Z h108 a108 .int 7 (lf [(.int (0 : Int32)), (.int (0 : Int32)), (.int (0 : Int32)), (.int (0 : Int32)), (.int (0 : Int32)), (.int (0 : Int32)), (.int (0 : Int32))]) := V_a108.congr (lf_rep 7 _)
    refine Jvm.OwnW.dup O108 at_71 rfl (q := 72) rfl ?_
    refine Jvm.OwnW.iconst O108 at_72 (r := (0 : Int32)) rfl (q := 73) rfl ?_
    refine Jvm.OwnW.iconst O108 at_73 (r := (-1 : Int32)) rfl (q := 74) rfl ?_
    refine Jvm.OwnW.iasA O108 at_74 V_a108 (i := 0) rfl (by decide) (Or.inr N108) (q := 75) rfl ?_
    intro T109 h109 O109 W109
    have V_a108 : Ar Z h109 a108 .int 7 (lf [(.int (-1 : Int32)), (.int (0 : Int32)), (.int (0 : Int32)), (.int (0 : Int32)), (.int (0 : Int32)), (.int (0 : Int32)), (.int (0 : Int32))]) := V_a108.setL W109 (by decide) (Nat.le_of_ble_eq_true rfl)
    have V_a95 := V_a95.other W109 ne_a95_a108
    have V_a103 := V_a103.other W109 ne_a103_a108
    refine Jvm.OwnW.dup O109 at_75 rfl (q := 76) rfl ?_
    refine Jvm.OwnW.iconst O109 at_76 (r := (1 : Int32)) rfl (q := 77) rfl ?_
    refine Jvm.OwnW.iconst O109 at_77 (r := (0 : Int32)) rfl (q := 78) rfl ?_
    refine Jvm.OwnW.iasA O109 at_78 V_a108 (i := 1) rfl (by decide) (Or.inr N108) (q := 79) rfl ?_
    intro T110 h110 O110 W110
    have V_a108 : Ar Z h110 a108 .int 7 (lf [(.int (-1 : Int32)), (.int (0 : Int32)), (.int (0 : Int32)), (.int (0 : Int32)), (.int (0 : Int32)), (.int (0 : Int32)), (.int (0 : Int32))]) := V_a108.setL W110 (by decide) (Nat.le_of_ble_eq_true rfl)
    have V_a95 := V_a95.other W110 ne_a95_a108
    have V_a103 := V_a103.other W110 ne_a103_a108
    refine Jvm.OwnW.dup O110 at_79 rfl (q := 80) rfl ?_
    refine Jvm.OwnW.iconst O110 at_80 (r := (2 : Int32)) rfl (q := 81) rfl ?_
    refine Jvm.OwnW.iconst O110 at_81 (r := (1 : Int32)) rfl (q := 82) rfl ?_
    refine Jvm.OwnW.iasA O110 at_82 V_a108 (i := 2) rfl (by decide) (Or.inr N108) (q := 83) rfl ?_
    intro T111 h111 O111 W111
    have V_a108 : Ar Z h111 a108 .int 7 (lf [(.int (-1 : Int32)), (.int (0 : Int32)), (.int (1 : Int32)), (.int (0 : Int32)), (.int (0 : Int32)), (.int (0 : Int32)), (.int (0 : Int32))]) := V_a108.setL W111 (by decide) (Nat.le_of_ble_eq_true rfl)
    have V_a95 := V_a95.other W111 ne_a95_a108
    have V_a103 := V_a103.other W111 ne_a103_a108
    refine Jvm.OwnW.dup O111 at_83 rfl (q := 84) rfl ?_
    refine Jvm.OwnW.iconst O111 at_84 (r := (3 : Int32)) rfl (q := 85) rfl ?_
    refine Jvm.OwnW.iconst O111 at_85 (r := (0 : Int32)) rfl (q := 86) rfl ?_
    refine Jvm.OwnW.iasA O111 at_86 V_a108 (i := 3) rfl (by decide) (Or.inr N108) (q := 87) rfl ?_
    intro T112 h112 O112 W112
    have V_a108 : Ar Z h112 a108 .int 7 (lf [(.int (-1 : Int32)), (.int (0 : Int32)), (.int (1 : Int32)), (.int (0 : Int32)), (.int (0 : Int32)), (.int (0 : Int32)), (.int (0 : Int32))]) := V_a108.setL W112 (by decide) (Nat.le_of_ble_eq_true rfl)
    have V_a95 := V_a95.other W112 ne_a95_a108
    have V_a103 := V_a103.other W112 ne_a103_a108
    refine Jvm.OwnW.dup O112 at_87 rfl (q := 88) rfl ?_
    refine Jvm.OwnW.iconst O112 at_88 (r := (4 : Int32)) rfl (q := 89) rfl ?_
    refine Jvm.OwnW.iconst O112 at_89 (r := (-1 : Int32)) rfl (q := 90) rfl ?_
    refine Jvm.OwnW.iasA O112 at_90 V_a108 (i := 4) rfl (by decide) (Or.inr N108) (q := 91) rfl ?_
    intro T113 h113 O113 W113
    have V_a108 : Ar Z h113 a108 .int 7 (lf [(.int (-1 : Int32)), (.int (0 : Int32)), (.int (1 : Int32)), (.int (0 : Int32)), (.int (-1 : Int32)), (.int (0 : Int32)), (.int (0 : Int32))]) := V_a108.setL W113 (by decide) (Nat.le_of_ble_eq_true rfl)
    have V_a95 := V_a95.other W113 ne_a95_a108
    have V_a103 := V_a103.other W113 ne_a103_a108
    refine Jvm.OwnW.dup O113 at_91 rfl (q := 92) rfl ?_
    refine Jvm.OwnW.iconst O113 at_92 (r := (5 : Int32)) rfl (q := 93) rfl ?_
    refine Jvm.OwnW.iconst O113 at_93 (r := (4 : Int32)) rfl (q := 94) rfl ?_
    refine Jvm.OwnW.iasA O113 at_94 V_a108 (i := 5) rfl (by decide) (Or.inr N108) (q := 95) rfl ?_
    intro T114 h114 O114 W114
    have V_a108 : Ar Z h114 a108 .int 7 (lf [(.int (-1 : Int32)), (.int (0 : Int32)), (.int (1 : Int32)), (.int (0 : Int32)), (.int (-1 : Int32)), (.int (4 : Int32)), (.int (0 : Int32))]) := V_a108.setL W114 (by decide) (Nat.le_of_ble_eq_true rfl)
    have V_a95 := V_a95.other W114 ne_a95_a108
    have V_a103 := V_a103.other W114 ne_a103_a108
    refine Jvm.OwnW.dup O114 at_95 rfl (q := 96) rfl ?_
    refine Jvm.OwnW.bipush O114 at_96 (r := (6 : Int32)) rfl (q := 98) rfl ?_
    refine Jvm.OwnW.iconst O114 at_98 (r := (-1 : Int32)) rfl (q := 99) rfl ?_
    refine Jvm.OwnW.iasA O114 at_99 V_a108 (i := 6) rfl (by decide) (Or.inr N108) (q := 100) rfl ?_
    intro T115 h115 O115 W115
    have V_a108 : Ar Z h115 a108 .int 7 (lf [(.int (-1 : Int32)), (.int (0 : Int32)), (.int (1 : Int32)), (.int (0 : Int32)), (.int (-1 : Int32)), (.int (4 : Int32)), (.int (-1 : Int32))]) := V_a108.setL W115 (by decide) (Nat.le_of_ble_eq_true rfl)
    have V_a95 := V_a95.other W115 ne_a95_a108
    have V_a103 := V_a103.other W115 ne_a103_a108
    refine Jvm.OwnW.astore O115 at_100 rfl (L' := #[.val (.int p0), .val (.int p1), .val (.int p2), .val (.int p3), .val (.int p4), .val (.int p5), .val (.int (2 : Int32)), .val (.ref a95), .val (.ref a103), .val (.ref a108), .unset, .unset, .unset, .unset, .unset, .unset, .unset, .unset, .unset, .unset, .unset, .unset, .unset, .unset, .unset]) rfl (q := 102) rfl ?_
    refine Jvm.OwnW.bipush O115 at_102 (r := (7 : Int32)) rfl (q := 104) rfl ?_
    refine Jvm.OwnW.newA' O115 at_104 (ty := .int) rfl (hw _ (List.mem_of_getElem? (i := 1) rfl)) (N := 7) rfl (cap := 7) (by decide) (by decide) (c2 := 4) (s2 := 25) rfl rfl (by decide) (by decide) (q := 106) rfl ?_
    intro a116 T116 h116 g116 N116 O116 X116 V_a116
    have ne_a95_a116 : a95 ≠ a116 := Nat.ne_of_lt (Nat.lt_of_lt_of_le V_a95.lt (Nat.le_of_eq g116.symm))
    have ne_a103_a116 : a103 ≠ a116 := Nat.ne_of_lt (Nat.lt_of_lt_of_le V_a103.lt (Nat.le_of_eq g116.symm))
    have ne_a108_a116 : a108 ≠ a116 := Nat.ne_of_lt (Nat.lt_of_lt_of_le V_a108.lt (Nat.le_of_eq g116.symm))
    have V_a95 := V_a95.ext X116
    have V_a103 := V_a103.ext X116
    have V_a108 := V_a108.ext X116
    have V_a116 : Ar Z h116 a116 .int 7 (lf [(.int (0 : Int32)), (.int (0 : Int32)), (.int (0 : Int32)), (.int (0 : Int32)), (.int (0 : Int32)), (.int (0 : Int32)), (.int (0 : Int32))]) := V_a116.congr (lf_rep 7 _)
    refine Jvm.OwnW.dup O116 at_106 rfl (q := 107) rfl ?_
    refine Jvm.OwnW.iconst O116 at_107 (r := (0 : Int32)) rfl (q := 108) rfl ?_
    refine Jvm.OwnW.iconst O116 at_108 (r := (-1 : Int32)) rfl (q := 109) rfl ?_
    refine Jvm.OwnW.iasA O116 at_109 V_a116 (i := 0) rfl (by decide) (Or.inr N116) (q := 110) rfl ?_
    intro T117 h117 O117 W117
    have V_a116 : Ar Z h117 a116 .int 7 (lf [(.int (-1 : Int32)), (.int (0 : Int32)), (.int (0 : Int32)), (.int (0 : Int32)), (.int (0 : Int32)), (.int (0 : Int32)), (.int (0 : Int32))]) := V_a116.setL W117 (by decide) (Nat.le_of_ble_eq_true rfl)
    have V_a95 := V_a95.other W117 ne_a95_a116
    have V_a103 := V_a103.other W117 ne_a103_a116
    have V_a108 := V_a108.other W117 ne_a108_a116
    refine Jvm.OwnW.dup O117 at_110 rfl (q := 111) rfl ?_
    refine Jvm.OwnW.iconst O117 at_111 (r := (1 : Int32)) rfl (q := 112) rfl ?_
    refine Jvm.OwnW.iconst O117 at_112 (r := (0 : Int32)) rfl (q := 113) rfl ?_
    refine Jvm.OwnW.iasA O117 at_113 V_a116 (i := 1) rfl (by decide) (Or.inr N116) (q := 114) rfl ?_
    intro T118 h118 O118 W118
    have V_a116 : Ar Z h118 a116 .int 7 (lf [(.int (-1 : Int32)), (.int (0 : Int32)), (.int (0 : Int32)), (.int (0 : Int32)), (.int (0 : Int32)), (.int (0 : Int32)), (.int (0 : Int32))]) := V_a116.setL W118 (by decide) (Nat.le_of_ble_eq_true rfl)
    have V_a95 := V_a95.other W118 ne_a95_a116
    have V_a103 := V_a103.other W118 ne_a103_a116
    have V_a108 := V_a108.other W118 ne_a108_a116
    refine Jvm.OwnW.dup O118 at_114 rfl (q := 115) rfl ?_
    refine Jvm.OwnW.iconst O118 at_115 (r := (2 : Int32)) rfl (q := 116) rfl ?_
    refine Jvm.OwnW.iconst O118 at_116 (r := (1 : Int32)) rfl (q := 117) rfl ?_
    refine Jvm.OwnW.iasA O118 at_117 V_a116 (i := 2) rfl (by decide) (Or.inr N116) (q := 118) rfl ?_
    intro T119 h119 O119 W119
    have V_a116 : Ar Z h119 a116 .int 7 (lf [(.int (-1 : Int32)), (.int (0 : Int32)), (.int (1 : Int32)), (.int (0 : Int32)), (.int (0 : Int32)), (.int (0 : Int32)), (.int (0 : Int32))]) := V_a116.setL W119 (by decide) (Nat.le_of_ble_eq_true rfl)
    have V_a95 := V_a95.other W119 ne_a95_a116
    have V_a103 := V_a103.other W119 ne_a103_a116
    have V_a108 := V_a108.other W119 ne_a108_a116
    refine Jvm.OwnW.dup O119 at_118 rfl (q := 119) rfl ?_
    refine Jvm.OwnW.iconst O119 at_119 (r := (3 : Int32)) rfl (q := 120) rfl ?_
    refine Jvm.OwnW.iconst O119 at_120 (r := (2 : Int32)) rfl (q := 121) rfl ?_
    refine Jvm.OwnW.iasA O119 at_121 V_a116 (i := 3) rfl (by decide) (Or.inr N116) (q := 122) rfl ?_
    intro T120 h120 O120 W120
    have V_a116 : Ar Z h120 a116 .int 7 (lf [(.int (-1 : Int32)), (.int (0 : Int32)), (.int (1 : Int32)), (.int (2 : Int32)), (.int (0 : Int32)), (.int (0 : Int32)), (.int (0 : Int32))]) := V_a116.setL W120 (by decide) (Nat.le_of_ble_eq_true rfl)
    have V_a95 := V_a95.other W120 ne_a95_a116
    have V_a103 := V_a103.other W120 ne_a103_a116
    have V_a108 := V_a108.other W120 ne_a108_a116
    refine Jvm.OwnW.dup O120 at_122 rfl (q := 123) rfl ?_
    refine Jvm.OwnW.iconst O120 at_123 (r := (4 : Int32)) rfl (q := 124) rfl ?_
    refine Jvm.OwnW.iconst O120 at_124 (r := (-1 : Int32)) rfl (q := 125) rfl ?_
    refine Jvm.OwnW.iasA O120 at_125 V_a116 (i := 4) rfl (by decide) (Or.inr N116) (q := 126) rfl ?_
    intro T121 h121 O121 W121
    have V_a116 : Ar Z h121 a116 .int 7 (lf [(.int (-1 : Int32)), (.int (0 : Int32)), (.int (1 : Int32)), (.int (2 : Int32)), (.int (-1 : Int32)), (.int (0 : Int32)), (.int (0 : Int32))]) := V_a116.setL W121 (by decide) (Nat.le_of_ble_eq_true rfl)
    have V_a95 := V_a95.other W121 ne_a95_a116
    have V_a103 := V_a103.other W121 ne_a103_a116
    have V_a108 := V_a108.other W121 ne_a108_a116
    refine Jvm.OwnW.dup O121 at_126 rfl (q := 127) rfl ?_
    refine Jvm.OwnW.iconst O121 at_127 (r := (5 : Int32)) rfl (q := 128) rfl ?_
    refine Jvm.OwnW.iconst O121 at_128 (r := (1 : Int32)) rfl (q := 129) rfl ?_
    refine Jvm.OwnW.iasA O121 at_129 V_a116 (i := 5) rfl (by decide) (Or.inr N116) (q := 130) rfl ?_
    intro T122 h122 O122 W122
    have V_a116 : Ar Z h122 a116 .int 7 (lf [(.int (-1 : Int32)), (.int (0 : Int32)), (.int (1 : Int32)), (.int (2 : Int32)), (.int (-1 : Int32)), (.int (1 : Int32)), (.int (0 : Int32))]) := V_a116.setL W122 (by decide) (Nat.le_of_ble_eq_true rfl)
    have V_a95 := V_a95.other W122 ne_a95_a116
    have V_a103 := V_a103.other W122 ne_a103_a116
    have V_a108 := V_a108.other W122 ne_a108_a116
    refine Jvm.OwnW.dup O122 at_130 rfl (q := 131) rfl ?_
    refine Jvm.OwnW.bipush O122 at_131 (r := (6 : Int32)) rfl (q := 133) rfl ?_
    refine Jvm.OwnW.iconst O122 at_133 (r := (-1 : Int32)) rfl (q := 134) rfl ?_
    refine Jvm.OwnW.iasA O122 at_134 V_a116 (i := 6) rfl (by decide) (Or.inr N116) (q := 135) rfl ?_
    intro T123 h123 O123 W123
    have V_a116 : Ar Z h123 a116 .int 7 (lf [(.int (-1 : Int32)), (.int (0 : Int32)), (.int (1 : Int32)), (.int (2 : Int32)), (.int (-1 : Int32)), (.int (1 : Int32)), (.int (-1 : Int32))]) := V_a116.setL W123 (by decide) (Nat.le_of_ble_eq_true rfl)
    have V_a95 := V_a95.other W123 ne_a95_a116
    have V_a103 := V_a103.other W123 ne_a103_a116
    have V_a108 := V_a108.other W123 ne_a108_a116
    refine Jvm.OwnW.astore O123 at_135 rfl (L' := #[.val (.int p0), .val (.int p1), .val (.int p2), .val (.int p3), .val (.int p4), .val (.int p5), .val (.int (2 : Int32)), .val (.ref a95), .val (.ref a103), .val (.ref a108), .val (.ref a116), .unset, .unset, .unset, .unset, .unset, .unset, .unset, .unset, .unset, .unset, .unset, .unset, .unset, .unset]) rfl (q := 137) rfl ?_
    refine Jvm.OwnW.iconst O123 at_137 (r := (3 : Int32)) rfl (q := 138) rfl ?_
    refine Jvm.OwnW.newA' O123 at_138 (ty := .int) rfl (hw _ (List.mem_of_getElem? (i := 1) rfl)) (N := 3) rfl (cap := 3) (by decide) (by decide) (c2 := 5) (s2 := 28) rfl rfl (by decide) (by decide) (q := 140) rfl ?_
    intro a124 T124 h124 g124 N124 O124 X124 V_a124
    have ne_a95_a124 : a95 ≠ a124 := Nat.ne_of_lt (Nat.lt_of_lt_of_le V_a95.lt (Nat.le_of_eq g124.symm))
    have ne_a103_a124 : a103 ≠ a124 := Nat.ne_of_lt (Nat.lt_of_lt_of_le V_a103.lt (Nat.le_of_eq g124.symm))
    have ne_a108_a124 : a108 ≠ a124 := Nat.ne_of_lt (Nat.lt_of_lt_of_le V_a108.lt (Nat.le_of_eq g124.symm))
    have ne_a116_a124 : a116 ≠ a124 := Nat.ne_of_lt (Nat.lt_of_lt_of_le V_a116.lt (Nat.le_of_eq g124.symm))
    have V_a95 := V_a95.ext X124
    have V_a103 := V_a103.ext X124
    have V_a108 := V_a108.ext X124
    have V_a116 := V_a116.ext X124
    have V_a124 : Ar Z h124 a124 .int 3 (lf [(.int (0 : Int32)), (.int (0 : Int32)), (.int (0 : Int32))]) := V_a124.congr (lf_rep 3 _)
    refine Jvm.OwnW.dup O124 at_140 rfl (q := 141) rfl ?_
    refine Jvm.OwnW.iconst O124 at_141 (r := (0 : Int32)) rfl (q := 142) rfl ?_
    refine Jvm.OwnW.iloadN O124 at_142 rfl (q := 143) rfl ?_
    refine Jvm.OwnW.iasA O124 at_143 V_a124 (i := 0) rfl (by decide) (Or.inr N124) (q := 144) rfl ?_
    intro T125 h125 O125 W125
    have V_a124 : Ar Z h125 a124 .int 3 (lf [(.int p2), (.int (0 : Int32)), (.int (0 : Int32))]) := V_a124.setL W125 (by decide) (Nat.le_of_ble_eq_true rfl)
    have V_a95 := V_a95.other W125 ne_a95_a124
    have V_a103 := V_a103.other W125 ne_a103_a124
    have V_a108 := V_a108.other W125 ne_a108_a124
    have V_a116 := V_a116.other W125 ne_a116_a124
    refine Jvm.OwnW.dup O125 at_144 rfl (q := 145) rfl ?_
    refine Jvm.OwnW.iconst O125 at_145 (r := (1 : Int32)) rfl (q := 146) rfl ?_
    refine Jvm.OwnW.iloadN O125 at_146 rfl (q := 147) rfl ?_
    refine Jvm.OwnW.iasA O125 at_147 V_a124 (i := 1) rfl (by decide) (Or.inr N124) (q := 148) rfl ?_
    intro T126 h126 O126 W126
    have V_a124 : Ar Z h126 a124 .int 3 (lf [(.int p2), (.int p3), (.int (0 : Int32))]) := V_a124.setL W126 (by decide) (Nat.le_of_ble_eq_true rfl)
    have V_a95 := V_a95.other W126 ne_a95_a124
    have V_a103 := V_a103.other W126 ne_a103_a124
    have V_a108 := V_a108.other W126 ne_a108_a124
    have V_a116 := V_a116.other W126 ne_a116_a124
    refine Jvm.OwnW.dup O126 at_148 rfl (q := 149) rfl ?_
    refine Jvm.OwnW.iconst O126 at_149 (r := (2 : Int32)) rfl (q := 150) rfl ?_
    refine Jvm.OwnW.iload O126 at_150 rfl (q := 152) rfl ?_
    refine Jvm.OwnW.iasA O126 at_152 V_a124 (i := 2) rfl (by decide) (Or.inr N124) (q := 153) rfl ?_
    intro T127 h127 O127 W127
    have V_a124 : Ar Z h127 a124 .int 3 (lf [(.int p2), (.int p3), (.int p4)]) := V_a124.setL W127 (by decide) (Nat.le_of_ble_eq_true rfl)
    have V_a95 := V_a95.other W127 ne_a95_a124
    have V_a103 := V_a103.other W127 ne_a103_a124
    have V_a108 := V_a108.other W127 ne_a108_a124
    have V_a116 := V_a116.other W127 ne_a116_a124
    refine Jvm.OwnW.astore O127 at_153 rfl (L' := #[.val (.int p0), .val (.int p1), .val (.int p2), .val (.int p3), .val (.int p4), .val (.int p5), .val (.int (2 : Int32)), .val (.ref a95), .val (.ref a103), .val (.ref a108), .val (.ref a116), .val (.ref a124), .unset, .unset, .unset, .unset, .unset, .unset, .unset, .unset, .unset, .unset, .unset, .unset, .unset]) rfl (q := 155) rfl ?_
    refine Jvm.OwnW.bipush O127 at_155 (r := (7 : Int32)) rfl (q := 157) rfl ?_
    refine Jvm.OwnW.newA' O127 at_157 (ty := .int) rfl (hw _ (List.mem_of_getElem? (i := 1) rfl)) (N := 7) rfl (cap := 7) (by decide) (by decide) (c2 := 6) (s2 := 35) rfl rfl (by decide) (by decide) (q := 159) rfl ?_
    intro a128 T128 h128 g128 N128 O128 X128 V_a128
    have ne_a95_a128 : a95 ≠ a128 := Nat.ne_of_lt (Nat.lt_of_lt_of_le V_a95.lt (Nat.le_of_eq g128.symm))
    have ne_a103_a128 : a103 ≠ a128 := Nat.ne_of_lt (Nat.lt_of_lt_of_le V_a103.lt (Nat.le_of_eq g128.symm))
    have ne_a108_a128 : a108 ≠ a128 := Nat.ne_of_lt (Nat.lt_of_lt_of_le V_a108.lt (Nat.le_of_eq g128.symm))
    have ne_a116_a128 : a116 ≠ a128 := Nat.ne_of_lt (Nat.lt_of_lt_of_le V_a116.lt (Nat.le_of_eq g128.symm))
    have ne_a124_a128 : a124 ≠ a128 := Nat.ne_of_lt (Nat.lt_of_lt_of_le V_a124.lt (Nat.le_of_eq g128.symm))
    have V_a95 := V_a95.ext X128
    have V_a103 := V_a103.ext X128
    have V_a108 := V_a108.ext X128
    have V_a116 := V_a116.ext X128
    have V_a124 := V_a124.ext X128
    have V_a128 : Ar Z h128 a128 .int 7 (lf [(.int (0 : Int32)), (.int (0 : Int32)), (.int (0 : Int32)), (.int (0 : Int32)), (.int (0 : Int32)), (.int (0 : Int32)), (.int (0 : Int32))]) := V_a128.congr (lf_rep 7 _)
    refine Jvm.OwnW.dup O128 at_159 rfl (q := 160) rfl ?_
    refine Jvm.OwnW.iconst O128 at_160 (r := (0 : Int32)) rfl (q := 161) rfl ?_
    refine Jvm.OwnW.iload O128 at_161 rfl (q := 163) rfl ?_
    refine Jvm.OwnW.iasA O128 at_163 V_a128 (i := 0) rfl (by decide) (Or.inr N128) (q := 164) rfl ?_
    intro T129 h129 O129 W129
    have V_a128 : Ar Z h129 a128 .int 7 (lf [(.int p5), (.int (0 : Int32)), (.int (0 : Int32)), (.int (0 : Int32)), (.int (0 : Int32)), (.int (0 : Int32)), (.int (0 : Int32))]) := V_a128.setL W129 (by decide) (Nat.le_of_ble_eq_true rfl)
    have V_a95 := V_a95.other W129 ne_a95_a128
    have V_a103 := V_a103.other W129 ne_a103_a128
    have V_a108 := V_a108.other W129 ne_a108_a128
    have V_a116 := V_a116.other W129 ne_a116_a128
    have V_a124 := V_a124.other W129 ne_a124_a128
    refine Jvm.OwnW.dup O129 at_164 rfl (q := 165) rfl ?_
    refine Jvm.OwnW.iconst O129 at_165 (r := (1 : Int32)) rfl (q := 166) rfl ?_
    refine Jvm.OwnW.iload O129 at_166 rfl (q := 168) rfl ?_
    refine Jvm.OwnW.iasA O129 at_168 V_a128 (i := 1) rfl (by decide) (Or.inr N128) (q := 169) rfl ?_
    intro T130 h130 O130 W130
    have V_a128 : Ar Z h130 a128 .int 7 (lf [(.int p5), (.int p5), (.int (0 : Int32)), (.int (0 : Int32)), (.int (0 : Int32)), (.int (0 : Int32)), (.int (0 : Int32))]) := V_a128.setL W130 (by decide) (Nat.le_of_ble_eq_true rfl)
    have V_a95 := V_a95.other W130 ne_a95_a128
    have V_a103 := V_a103.other W130 ne_a103_a128
    have V_a108 := V_a108.other W130 ne_a108_a128
    have V_a116 := V_a116.other W130 ne_a116_a128
    have V_a124 := V_a124.other W130 ne_a124_a128
    refine Jvm.OwnW.dup O130 at_169 rfl (q := 170) rfl ?_
    refine Jvm.OwnW.iconst O130 at_170 (r := (2 : Int32)) rfl (q := 171) rfl ?_
    refine Jvm.OwnW.iload O130 at_171 rfl (q := 173) rfl ?_
    refine Jvm.OwnW.iasA O130 at_173 V_a128 (i := 2) rfl (by decide) (Or.inr N128) (q := 174) rfl ?_
    intro T131 h131 O131 W131
    have V_a128 : Ar Z h131 a128 .int 7 (lf [(.int p5), (.int p5), (.int p5), (.int (0 : Int32)), (.int (0 : Int32)), (.int (0 : Int32)), (.int (0 : Int32))]) := V_a128.setL W131 (by decide) (Nat.le_of_ble_eq_true rfl)
    have V_a95 := V_a95.other W131 ne_a95_a128
    have V_a103 := V_a103.other W131 ne_a103_a128
    have V_a108 := V_a108.other W131 ne_a108_a128
    have V_a116 := V_a116.other W131 ne_a116_a128
    have V_a124 := V_a124.other W131 ne_a124_a128
    refine Jvm.OwnW.dup O131 at_174 rfl (q := 175) rfl ?_
    refine Jvm.OwnW.iconst O131 at_175 (r := (3 : Int32)) rfl (q := 176) rfl ?_
    refine Jvm.OwnW.iload O131 at_176 rfl (q := 178) rfl ?_
    refine Jvm.OwnW.iasA O131 at_178 V_a128 (i := 3) rfl (by decide) (Or.inr N128) (q := 179) rfl ?_
    intro T132 h132 O132 W132
    have V_a128 : Ar Z h132 a128 .int 7 (lf [(.int p5), (.int p5), (.int p5), (.int p5), (.int (0 : Int32)), (.int (0 : Int32)), (.int (0 : Int32))]) := V_a128.setL W132 (by decide) (Nat.le_of_ble_eq_true rfl)
    have V_a95 := V_a95.other W132 ne_a95_a128
    have V_a103 := V_a103.other W132 ne_a103_a128
    have V_a108 := V_a108.other W132 ne_a108_a128
    have V_a116 := V_a116.other W132 ne_a116_a128
    have V_a124 := V_a124.other W132 ne_a124_a128
    refine Jvm.OwnW.dup O132 at_179 rfl (q := 180) rfl ?_
    refine Jvm.OwnW.iconst O132 at_180 (r := (4 : Int32)) rfl (q := 181) rfl ?_
    refine Jvm.OwnW.iload O132 at_181 rfl (q := 183) rfl ?_
    refine Jvm.OwnW.iasA O132 at_183 V_a128 (i := 4) rfl (by decide) (Or.inr N128) (q := 184) rfl ?_
    intro T133 h133 O133 W133
    have V_a128 : Ar Z h133 a128 .int 7 (lf [(.int p5), (.int p5), (.int p5), (.int p5), (.int p5), (.int (0 : Int32)), (.int (0 : Int32))]) := V_a128.setL W133 (by decide) (Nat.le_of_ble_eq_true rfl)
    have V_a95 := V_a95.other W133 ne_a95_a128
    have V_a103 := V_a103.other W133 ne_a103_a128
    have V_a108 := V_a108.other W133 ne_a108_a128
    have V_a116 := V_a116.other W133 ne_a116_a128
    have V_a124 := V_a124.other W133 ne_a124_a128
    refine Jvm.OwnW.dup O133 at_184 rfl (q := 185) rfl ?_
    refine Jvm.OwnW.iconst O133 at_185 (r := (5 : Int32)) rfl (q := 186) rfl ?_
    refine Jvm.OwnW.iload O133 at_186 rfl (q := 188) rfl ?_
    refine Jvm.OwnW.iasA O133 at_188 V_a128 (i := 5) rfl (by decide) (Or.inr N128) (q := 189) rfl ?_
    intro T134 h134 O134 W134
    have V_a128 : Ar Z h134 a128 .int 7 (lf [(.int p5), (.int p5), (.int p5), (.int p5), (.int p5), (.int p5), (.int (0 : Int32))]) := V_a128.setL W134 (by decide) (Nat.le_of_ble_eq_true rfl)
    have V_a95 := V_a95.other W134 ne_a95_a128
    have V_a103 := V_a103.other W134 ne_a103_a128
    have V_a108 := V_a108.other W134 ne_a108_a128
    have V_a116 := V_a116.other W134 ne_a116_a128
    have V_a124 := V_a124.other W134 ne_a124_a128
    refine Jvm.OwnW.dup O134 at_189 rfl (q := 190) rfl ?_
    refine Jvm.OwnW.bipush O134 at_190 (r := (6 : Int32)) rfl (q := 192) rfl ?_
    refine Jvm.OwnW.iload O134 at_192 rfl (q := 194) rfl ?_
    refine Jvm.OwnW.iasA O134 at_194 V_a128 (i := 6) rfl (by decide) (Or.inr N128) (q := 195) rfl ?_
    intro T135 h135 O135 W135
    have V_a128 : Ar Z h135 a128 .int 7 (lf [(.int p5), (.int p5), (.int p5), (.int p5), (.int p5), (.int p5), (.int p5)]) := V_a128.setL W135 (by decide) (Nat.le_of_ble_eq_true rfl)
    have V_a95 := V_a95.other W135 ne_a95_a128
    have V_a103 := V_a103.other W135 ne_a103_a128
    have V_a108 := V_a108.other W135 ne_a108_a128
    have V_a116 := V_a116.other W135 ne_a116_a128
    have V_a124 := V_a124.other W135 ne_a124_a128
    refine Jvm.OwnW.astore O135 at_195 rfl (L' := #[.val (.int p0), .val (.int p1), .val (.int p2), .val (.int p3), .val (.int p4), .val (.int p5), .val (.int (2 : Int32)), .val (.ref a95), .val (.ref a103), .val (.ref a108), .val (.ref a116), .val (.ref a124), .val (.ref a128), .unset, .unset, .unset, .unset, .unset, .unset, .unset, .unset, .unset, .unset, .unset, .unset]) rfl (q := 197) rfl ?_
    refine Jvm.OwnW.newO O135 at_197 (hw _ (List.mem_of_getElem? (i := 2) rfl)) (hw _ (List.mem_of_getElem? (i := 3) rfl)) (hw _ (List.mem_of_getElem? (i := 4) rfl)) (c2 := 7) (s2 := 39) rfl rfl (by decide) (by decide) (q := 200) rfl ?_
    intro a136 T136 h136 g136 N136 O136 X136 E_a136 D136
    have ne_a95_a136 : a95 ≠ a136 := Nat.ne_of_lt (Nat.lt_of_lt_of_le V_a95.lt (Nat.le_of_eq g136.symm))
    have ne_a103_a136 : a103 ≠ a136 := Nat.ne_of_lt (Nat.lt_of_lt_of_le V_a103.lt (Nat.le_of_eq g136.symm))
    have ne_a108_a136 : a108 ≠ a136 := Nat.ne_of_lt (Nat.lt_of_lt_of_le V_a108.lt (Nat.le_of_eq g136.symm))
    have ne_a116_a136 : a116 ≠ a136 := Nat.ne_of_lt (Nat.lt_of_lt_of_le V_a116.lt (Nat.le_of_eq g136.symm))
    have ne_a124_a136 : a124 ≠ a136 := Nat.ne_of_lt (Nat.lt_of_lt_of_le V_a124.lt (Nat.le_of_eq g136.symm))
    have ne_a128_a136 : a128 ≠ a136 := Nat.ne_of_lt (Nat.lt_of_lt_of_le V_a128.lt (Nat.le_of_eq g136.symm))
    have V_a95 := V_a95.ext X136
    have V_a103 := V_a103.ext X136
    have V_a108 := V_a108.ext X136
    have V_a116 := V_a116.ext X136
    have V_a124 := V_a124.ext X136
    have V_a128 := V_a128.ext X136
    have F_routes_a136 : Fld Z h136 a136 "com/example/bidwright/bidwright/game/ClientOptions$RouteList" "routes" "[I" .null := D136 (Or.inr (hw _ (List.mem_of_getElem? (i := 17) rfl))) (ty := (.array .int)) (by decide)
    have F_stayStarts_a136 : Fld Z h136 a136 "com/example/bidwright/bidwright/game/ClientOptions$RouteList" "stayStarts" "[I" .null := D136 (Or.inr (hw _ (List.mem_of_getElem? (i := 19) rfl))) (ty := (.array .int)) (by decide)
    have F_extended_a136 : Fld Z h136 a136 "com/example/bidwright/bidwright/game/ClientOptions$RouteList" "extended" "[I" .null := D136 (Or.inr (hw _ (List.mem_of_getElem? (i := 21) rfl))) (ty := (.array .int)) (by decide)
    have F_added_a136 : Fld Z h136 a136 "com/example/bidwright/bidwright/game/ClientOptions$RouteList" "added" "[I" .null := D136 (Or.inr (hw _ (List.mem_of_getElem? (i := 23) rfl))) (ty := (.array .int)) (by decide)
    refine Jvm.OwnW.dup O136 at_200 rfl (q := 201) rfl ?_
    refine Jvm.OwnW.aload O136 at_201 rfl rfl (q := 203) rfl ?_
    refine Jvm.OwnW.aload O136 at_203 rfl rfl (q := 205) rfl ?_
    refine Jvm.OwnW.aload O136 at_205 rfl rfl (q := 207) rfl ?_
    refine Jvm.OwnW.aload O136 at_207 rfl rfl (q := 209) rfl ?_
    refine Jvm.OwnW.callI O136 (y := (⟨"com/example/bidwright/bidwright/game/ClientOptions$RouteList", "<init>", "([I[I[I[I)V"⟩ : MethodName)) (a := a136) (argsL := [(.ref a95), (.ref a103), (.ref a108), (.ref a116)]) (rest := [(.ref a136)]) at_209 rfl (hw _ (List.mem_of_getElem? (i := 5) rfl)) (hw _ (List.mem_of_getElem? (i := 6) rfl)) (hw _ (List.mem_of_getElem? (i := 4) rfl)) (hw _ (List.mem_of_getElem? (i := 7) rfl)) (by decide) (rm_i l Z a0 hw a136 a95 a103 a108 a116 h136 E_a136 F_routes_a136 F_stayStarts_a136 F_extended_a136 F_added_a136) rfl pd_1 rfl (hst := rfl) (W := 1) (Nat.le_of_eq rfl) (by decide) (by decide) (c2 := 7) (s2 := 39) rfl rfl (by decide) (by decide) (allS (Or.inr N136) all0) (q := 212) rfl ?_
    intro v137 T137 h137 O137 K137 q137
    obtain ⟨rfl, F_routes_a136, F_stayStarts_a136, F_extended_a136, F_added_a136⟩ := q137
    have V_a95 := V_a95.keep K137 (ninS ne_a95_a136 nin0)
    have V_a103 := V_a103.keep K137 (ninS ne_a103_a136 nin0)
    have V_a108 := V_a108.keep K137 (ninS ne_a108_a136 nin0)
    have V_a116 := V_a116.keep K137 (ninS ne_a116_a136 nin0)
    have V_a124 := V_a124.keep K137 (ninS ne_a124_a136 nin0)
    have V_a128 := V_a128.keep K137 (ninS ne_a128_a136 nin0)
    have E_a136 := E_a136.keep K137
    show Go C _ _ _ _ (T137.setTop (mkF C.m 212 #[.val (.int p0), .val (.int p1), .val (.int p2), .val (.int p3), .val (.int p4), .val (.int p5), .val (.int (2 : Int32)), .val (.ref a95), .val (.ref a103), .val (.ref a108), .val (.ref a116), .val (.ref a124), .val (.ref a128), .unset, .unset, .unset, .unset, .unset, .unset, .unset, .unset, .unset, .unset, .unset, .unset] [(.ref a136)]))
    refine Jvm.OwnW.astore O137 at_212 rfl (L' := #[.val (.int p0), .val (.int p1), .val (.int p2), .val (.int p3), .val (.int p4), .val (.int p5), .val (.int (2 : Int32)), .val (.ref a95), .val (.ref a103), .val (.ref a108), .val (.ref a116), .val (.ref a124), .val (.ref a128), .val (.ref a136), .unset, .unset, .unset, .unset, .unset, .unset, .unset, .unset, .unset, .unset, .unset]) rfl (q := 214) rfl ?_
    refine Jvm.OwnW.aload O137 at_214 rfl rfl (q := 216) rfl ?_
    refine Jvm.OwnW.iload O137 at_216 rfl (q := 218) rfl ?_
    refine Jvm.OwnW.iloadN O137 at_218 rfl (q := 219) rfl ?_
    refine Jvm.OwnW.aload O137 at_219 rfl rfl (q := 221) rfl ?_
    refine Jvm.OwnW.aload O137 at_221 rfl rfl (q := 223) rfl ?_
    refine Jvm.OwnW.callV O137 (y := (⟨"com/example/bidwright/bidwright/game/ClientOptions$RouteList", "putUtilities", "(II[I[I)I"⟩ : MethodName)) (z := (⟨"com/example/bidwright/bidwright/game/ClientOptions$RouteList", "putUtilities", "(II[I[I)I"⟩ : MethodName)) (a := a136) (argsL := [(.int (2 : Int32)), (.int p1), (.ref a124), (.ref a128)]) (rest := []) at_223 (hw _ (List.mem_of_getElem? (i := 24) rfl)) (hw _ (List.mem_of_getElem? (i := 25) rfl)) (hw _ (List.mem_of_getElem? (i := 27) rfl)) rfl (hw _ (List.mem_of_getElem? (i := 26) rfl)) (hw _ (List.mem_of_getElem? (i := 4) rfl)) (hw _ (List.mem_of_getElem? (i := 28) rfl)) (by decide) (rm_u2 l Z a0 hw a136 p1 a124 a128 a103 a108 a116 p2 p3 p4 p5 h137 E_a136 F_stayStarts_a136 F_extended_a136 F_added_a136 V_a103 V_a108 V_a116 V_a124 V_a128 (Ne.symm ne_a128_a136) ne_a103_a128 ne_a108_a128 ne_a116_a128 ne_a124_a128) E_a136 rfl pd_2 rfl (hst := rfl) (W := 0) (Nat.le_of_eq rfl) (by decide) (by decide) (c2 := 7) (s2 := 39) rfl rfl (by decide) (by decide) (allS (Or.inr N128) all0) (q := 226) rfl ?_
    intro v138 T138 h138 O138 K138 q138
    obtain ⟨rfl, V_a128⟩ := q138
    have V_a95 := V_a95.keep K138 (ninS ne_a95_a128 nin0)
    have V_a103 := V_a103.keep K138 (ninS ne_a103_a128 nin0)
    have V_a108 := V_a108.keep K138 (ninS ne_a108_a128 nin0)
    have V_a116 := V_a116.keep K138 (ninS ne_a116_a128 nin0)
    have V_a124 := V_a124.keep K138 (ninS ne_a124_a128 nin0)
    have E_a136 := E_a136.keep K138
    have F_routes_a136 := F_routes_a136.keep K138 (ninS (Ne.symm ne_a128_a136) nin0)
    have F_stayStarts_a136 := F_stayStarts_a136.keep K138 (ninS (Ne.symm ne_a128_a136) nin0)
    have F_extended_a136 := F_extended_a136.keep K138 (ninS (Ne.symm ne_a128_a136) nin0)
    have F_added_a136 := F_added_a136.keep K138 (ninS (Ne.symm ne_a128_a136) nin0)
    show Go C _ _ _ _ (T138.setTop (mkF C.m 226 #[.val (.int p0), .val (.int p1), .val (.int p2), .val (.int p3), .val (.int p4), .val (.int p5), .val (.int (2 : Int32)), .val (.ref a95), .val (.ref a103), .val (.ref a108), .val (.ref a116), .val (.ref a124), .val (.ref a128), .val (.ref a136), .unset, .unset, .unset, .unset, .unset, .unset, .unset, .unset, .unset, .unset, .unset] [(.int (0 : Int32))]))
    refine Jvm.OwnW.istore O138 at_226 (L' := #[.val (.int p0), .val (.int p1), .val (.int p2), .val (.int p3), .val (.int p4), .val (.int p5), .val (.int (2 : Int32)), .val (.ref a95), .val (.ref a103), .val (.ref a108), .val (.ref a116), .val (.ref a124), .val (.ref a128), .val (.ref a136), .val (.int (0 : Int32)), .unset, .unset, .unset, .unset, .unset, .unset, .unset, .unset, .unset, .unset]) rfl (q := 228) rfl ?_
    refine Jvm.OwnW.bipush O138 at_228 (r := (100 : Int32)) rfl (q := 230) rfl ?_
    refine Jvm.OwnW.iloadN O138 at_230 rfl (q := 231) rfl ?_
    refine Jvm.OwnW.imul O138 at_231 rfl (q := 232) rfl ?_
    refine Jvm.OwnW.istore O138 at_232 (L' := #[.val (.int p0), .val (.int p1), .val (.int p2), .val (.int p3), .val (.int p4), .val (.int p5), .val (.int (2 : Int32)), .val (.ref a95), .val (.ref a103), .val (.ref a108), .val (.ref a116), .val (.ref a124), .val (.ref a128), .val (.ref a136), .val (.int (0 : Int32)), .val (.int ((100 : Int32) * p1)), .unset, .unset, .unset, .unset, .unset, .unset, .unset, .unset, .unset]) rfl (q := 234) rfl ?_
    refine Jvm.OwnW.iload O138 at_234 rfl (q := 236) rfl ?_
    refine Jvm.OwnW.istore O138 at_236 (L' := #[.val (.int p0), .val (.int p1), .val (.int p2), .val (.int p3), .val (.int p4), .val (.int p5), .val (.int (2 : Int32)), .val (.ref a95), .val (.ref a103), .val (.ref a108), .val (.ref a116), .val (.ref a124), .val (.ref a128), .val (.ref a136), .val (.int (0 : Int32)), .val (.int ((100 : Int32) * p1)), .val (.int p5), .unset, .unset, .unset, .unset, .unset, .unset, .unset, .unset]) rfl (q := 238) rfl ?_
    refine Jvm.OwnW.iload O138 at_238 rfl (q := 240) rfl ?_
    refine Jvm.OwnW.istore O138 at_240 (L' := #[.val (.int p0), .val (.int p1), .val (.int p2), .val (.int p3), .val (.int p4), .val (.int p5), .val (.int (2 : Int32)), .val (.ref a95), .val (.ref a103), .val (.ref a108), .val (.ref a116), .val (.ref a124), .val (.ref a128), .val (.ref a136), .val (.int (0 : Int32)), .val (.int ((100 : Int32) * p1)), .val (.int p5), .val (.int p5), .unset, .unset, .unset, .unset, .unset, .unset, .unset]) rfl (q := 242) rfl ?_
    refine Jvm.OwnW.iload O138 at_242 rfl (q := 244) rfl ?_
    refine Jvm.OwnW.istore O138 at_244 (L' := #[.val (.int p0), .val (.int p1), .val (.int p2), .val (.int p3), .val (.int p4), .val (.int p5), .val (.int (2 : Int32)), .val (.ref a95), .val (.ref a103), .val (.ref a108), .val (.ref a116), .val (.ref a124), .val (.ref a128), .val (.ref a136), .val (.int (0 : Int32)), .val (.int ((100 : Int32) * p1)), .val (.int p5), .val (.int p5), .val (.int p5), .unset, .unset, .unset, .unset, .unset, .unset]) rfl (q := 246) rfl ?_
    refine Jvm.OwnW.iload O138 at_246 rfl (q := 248) rfl ?_
    refine Jvm.OwnW.istore O138 at_248 (L' := #[.val (.int p0), .val (.int p1), .val (.int p2), .val (.int p3), .val (.int p4), .val (.int p5), .val (.int (2 : Int32)), .val (.ref a95), .val (.ref a103), .val (.ref a108), .val (.ref a116), .val (.ref a124), .val (.ref a128), .val (.ref a136), .val (.int (0 : Int32)), .val (.int ((100 : Int32) * p1)), .val (.int p5), .val (.int p5), .val (.int p5), .val (.int p5), .unset, .unset, .unset, .unset, .unset]) rfl (q := 250) rfl ?_
    refine Jvm.OwnW.iload O138 at_250 rfl (q := 252) rfl ?_
    refine Jvm.OwnW.istore O138 at_252 (L' := #[.val (.int p0), .val (.int p1), .val (.int p2), .val (.int p3), .val (.int p4), .val (.int p5), .val (.int (2 : Int32)), .val (.ref a95), .val (.ref a103), .val (.ref a108), .val (.ref a116), .val (.ref a124), .val (.ref a128), .val (.ref a136), .val (.int (0 : Int32)), .val (.int ((100 : Int32) * p1)), .val (.int p5), .val (.int p5), .val (.int p5), .val (.int p5), .val (.int p5), .unset, .unset, .unset, .unset]) rfl (q := 254) rfl ?_
    refine Jvm.OwnW.iload O138 at_254 rfl (q := 256) rfl ?_
    refine Jvm.OwnW.istore O138 at_256 (L' := #[.val (.int p0), .val (.int p1), .val (.int p2), .val (.int p3), .val (.int p4), .val (.int p5), .val (.int (2 : Int32)), .val (.ref a95), .val (.ref a103), .val (.ref a108), .val (.ref a116), .val (.ref a124), .val (.ref a128), .val (.ref a136), .val (.int (0 : Int32)), .val (.int ((100 : Int32) * p1)), .val (.int p5), .val (.int p5), .val (.int p5), .val (.int p5), .val (.int p5), .val (.int p5), .unset, .unset, .unset]) rfl (q := 258) rfl ?_
    refine Jvm.OwnW.iconst O138 at_258 (r := (0 : Int32)) rfl (q := 259) rfl ?_
    refine Jvm.OwnW.istore O138 at_259 (L' := #[.val (.int p0), .val (.int p1), .val (.int p2), .val (.int p3), .val (.int p4), .val (.int p5), .val (.int (2 : Int32)), .val (.ref a95), .val (.ref a103), .val (.ref a108), .val (.ref a116), .val (.ref a124), .val (.ref a128), .val (.ref a136), .val (.int (0 : Int32)), .val (.int ((100 : Int32) * p1)), .val (.int p5), .val (.int p5), .val (.int p5), .val (.int p5), .val (.int p5), .val (.int p5), .val (.int (0 : Int32)), .unset, .unset]) rfl (q := 261) rfl ?_
    refine Jvm.OwnW.iload O138 at_261 rfl (q := 263) rfl ?_
    refine Jvm.OwnW.ifYes O138 at_263 (feq0 (show ¬ ((2 : Int32) = (0 : Int32)) from (by decide))).2 (by decide) (q := 324) rfl ?_
    refine Jvm.OwnW.iload O138 at_324 rfl (q := 326) rfl ?_
    refine Jvm.OwnW.iconst O138 at_326 (r := (1 : Int32)) rfl (q := 327) rfl ?_
    refine Jvm.OwnW.icmpYes O138 at_327 (feq (show ¬ ((2 : Int32) = (1 : Int32)) from (by decide))).2 (by decide) (q := 356) rfl ?_
    refine Jvm.OwnW.aload O138 at_356 rfl rfl (q := 358) rfl ?_
    refine Jvm.OwnW.iconst O138 at_358 (r := (0 : Int32)) rfl (q := 359) rfl ?_
    refine Jvm.OwnW.ialA O138 at_359 V_a128 (i := 0) rfl (by decide) (v := (.int p5)) rfl (q := 360) rfl ?_
    refine Jvm.OwnW.iload O138 at_360 rfl (q := 362) rfl ?_
    refine Jvm.OwnW.icmpNo O138 at_362 (teq (show p5 = p5 from rfl)).2 (q := 365) rfl ?_
    refine Jvm.OwnW.aload O138 at_365 rfl rfl (q := 367) rfl ?_
    refine Jvm.OwnW.iconst O138 at_367 (r := (1 : Int32)) rfl (q := 368) rfl ?_
    refine Jvm.OwnW.ialA O138 at_368 V_a128 (i := 1) rfl (by decide) (v := (.int p5)) rfl (q := 369) rfl ?_
    refine Jvm.OwnW.iload O138 at_369 rfl (q := 371) rfl ?_
    refine Jvm.OwnW.icmpNo O138 at_371 (teq (show p5 = p5 from rfl)).2 (q := 374) rfl ?_
    refine Jvm.OwnW.aload O138 at_374 rfl rfl (q := 376) rfl ?_
    refine Jvm.OwnW.iconst O138 at_376 (r := (2 : Int32)) rfl (q := 377) rfl ?_
    refine Jvm.OwnW.ialA O138 at_377 V_a128 (i := 2) rfl (by decide) (v := (.int p5)) rfl (q := 378) rfl ?_
    refine Jvm.OwnW.iload O138 at_378 rfl (q := 380) rfl ?_
    refine Jvm.OwnW.icmpNo O138 at_380 (teq (show p5 = p5 from rfl)).2 (q := 383) rfl ?_
    refine Jvm.OwnW.aload O138 at_383 rfl rfl (q := 385) rfl ?_
    refine Jvm.OwnW.iconst O138 at_385 (r := (3 : Int32)) rfl (q := 386) rfl ?_
    refine Jvm.OwnW.ialA O138 at_386 V_a128 (i := 3) rfl (by decide) (v := (.int p5)) rfl (q := 387) rfl ?_
    refine Jvm.OwnW.iload O138 at_387 rfl (q := 389) rfl ?_
    refine Jvm.OwnW.icmpNo O138 at_389 (teq (show p5 = p5 from rfl)).2 (q := 392) rfl ?_
    refine Jvm.OwnW.aload O138 at_392 rfl rfl (q := 394) rfl ?_
    refine Jvm.OwnW.iconst O138 at_394 (r := (4 : Int32)) rfl (q := 395) rfl ?_
    refine Jvm.OwnW.ialA O138 at_395 V_a128 (i := 4) rfl (by decide) (v := (.int p5)) rfl (q := 396) rfl ?_
    refine Jvm.OwnW.iload O138 at_396 rfl (q := 398) rfl ?_
    refine Jvm.OwnW.icmpNo O138 at_398 (teq (show p5 = p5 from rfl)).2 (q := 401) rfl ?_
    refine Jvm.OwnW.aload O138 at_401 rfl rfl (q := 403) rfl ?_
    refine Jvm.OwnW.iconst O138 at_403 (r := (5 : Int32)) rfl (q := 404) rfl ?_
    refine Jvm.OwnW.ialA O138 at_404 V_a128 (i := 5) rfl (by decide) (v := (.int p5)) rfl (q := 405) rfl ?_
    refine Jvm.OwnW.iload O138 at_405 rfl (q := 407) rfl ?_
    refine Jvm.OwnW.icmpNo O138 at_407 (teq (show p5 = p5 from rfl)).2 (q := 410) rfl ?_
    refine Jvm.OwnW.aload O138 at_410 rfl rfl (q := 412) rfl ?_
    refine Jvm.OwnW.bipush O138 at_412 (r := (6 : Int32)) rfl (q := 414) rfl ?_
    refine Jvm.OwnW.ialA O138 at_414 V_a128 (i := 6) rfl (by decide) (v := (.int p5)) rfl (q := 415) rfl ?_
    refine Jvm.OwnW.iload O138 at_415 rfl (q := 417) rfl ?_
    refine Jvm.OwnW.icmpNo O138 at_417 (teq (show p5 = p5 from rfl)).2 (q := 420) rfl ?_
    refine Jvm.OwnW.iconst O138 at_420 (r := (1 : Int32)) rfl (q := 421) rfl ?_
    refine Jvm.OwnW.goto O138 at_421 (by decide) (q := 425) rfl ?_
    refine Jvm.OwnW.istore O138 at_425 (L' := #[.val (.int p0), .val (.int p1), .val (.int p2), .val (.int p3), .val (.int p4), .val (.int p5), .val (.int (2 : Int32)), .val (.ref a95), .val (.ref a103), .val (.ref a108), .val (.ref a116), .val (.ref a124), .val (.ref a128), .val (.ref a136), .val (.int (0 : Int32)), .val (.int ((100 : Int32) * p1)), .val (.int p5), .val (.int p5), .val (.int p5), .val (.int p5), .val (.int p5), .val (.int p5), .val (.int (0 : Int32)), .val (.int (1 : Int32)), .unset]) rfl (q := 427) rfl ?_
    refine Jvm.OwnW.aload O138 at_427 rfl rfl (q := 429) rfl ?_
    refine Jvm.OwnW.iconst O138 at_429 (r := (0 : Int32)) rfl (q := 430) rfl ?_
    refine Jvm.OwnW.ialA O138 at_430 V_a124 (i := 0) rfl (by decide) (v := (.int p2)) rfl (q := 431) rfl ?_
    refine Jvm.OwnW.iloadN O138 at_431 rfl (q := 432) rfl ?_
    refine Jvm.OwnW.icmpNo O138 at_432 (teq (show p2 = p2 from rfl)).2 (q := 435) rfl ?_
    refine Jvm.OwnW.aload O138 at_435 rfl rfl (q := 437) rfl ?_
    refine Jvm.OwnW.iconst O138 at_437 (r := (1 : Int32)) rfl (q := 438) rfl ?_
    refine Jvm.OwnW.ialA O138 at_438 V_a124 (i := 1) rfl (by decide) (v := (.int p3)) rfl (q := 439) rfl ?_
    refine Jvm.OwnW.iloadN O138 at_439 rfl (q := 440) rfl ?_
    refine Jvm.OwnW.icmpNo O138 at_440 (teq (show p3 = p3 from rfl)).2 (q := 443) rfl ?_
    refine Jvm.OwnW.aload O138 at_443 rfl rfl (q := 445) rfl ?_
    refine Jvm.OwnW.iconst O138 at_445 (r := (2 : Int32)) rfl (q := 446) rfl ?_
    refine Jvm.OwnW.ialA O138 at_446 V_a124 (i := 2) rfl (by decide) (v := (.int p4)) rfl (q := 447) rfl ?_
    refine Jvm.OwnW.iload O138 at_447 rfl (q := 449) rfl ?_
    refine Jvm.OwnW.icmpNo O138 at_449 (teq (show p4 = p4 from rfl)).2 (q := 452) rfl ?_
    refine Jvm.OwnW.iconst O138 at_452 (r := (1 : Int32)) rfl (q := 453) rfl ?_
    refine Jvm.OwnW.goto O138 at_453 (by decide) (q := 457) rfl ?_
    refine Jvm.OwnW.istore O138 at_457 (L' := #[.val (.int p0), .val (.int p1), .val (.int p2), .val (.int p3), .val (.int p4), .val (.int p5), .val (.int (2 : Int32)), .val (.ref a95), .val (.ref a103), .val (.ref a108), .val (.ref a116), .val (.ref a124), .val (.ref a128), .val (.ref a136), .val (.int (0 : Int32)), .val (.int ((100 : Int32) * p1)), .val (.int p5), .val (.int p5), .val (.int p5), .val (.int p5), .val (.int p5), .val (.int p5), .val (.int (0 : Int32)), .val (.int (1 : Int32)), .val (.int (1 : Int32))]) rfl (q := 459) rfl ?_
    refine Jvm.OwnW.iload O138 at_459 rfl (q := 461) rfl ?_
    refine Jvm.OwnW.iload O138 at_461 rfl (q := 463) rfl ?_
    refine Jvm.OwnW.icmpNo O138 at_463 (teq (show (0 : Int32) = (0 : Int32) from (by decide))).2 (q := 466) rfl ?_
    refine Jvm.OwnW.iload O138 at_466 rfl (q := 468) rfl ?_
    refine Jvm.OwnW.ifNo O138 at_468 (feq0 (show ¬ ((1 : Int32) = (0 : Int32)) from (by decide))).1 (q := 471) rfl ?_
    refine Jvm.OwnW.iload O138 at_471 rfl (q := 473) rfl ?_
    refine Jvm.OwnW.ifNo O138 at_473 (feq0 (show ¬ ((1 : Int32) = (0 : Int32)) from (by decide))).1 (q := 476) rfl ?_
    refine Jvm.OwnW.iconst O138 at_476 (r := (1 : Int32)) rfl (q := 477) rfl ?_
    refine Jvm.OwnW.goto O138 at_477 (by decide) (q := 481) rfl ?_
    exact Jvm.OwnW.retB O138 at_481 rfl (Or.inr rfl) (by decide) (by decide) rfl
set_option maxRecDepth 65536 in
set_option maxHeartbeats 40000000 in
theorem comes_1 {Post : Tables → Env → Array Value → State → Outcome → State → Prop} (hpost : ∀ tb e args s v u, (limb_1_1.after args s (.returned v) u = true ∧ limb_1_2.after args s (.returned v) u = true ∧ True) → FrameEnd s (.returned v) u (Jvm.fieldLocs frame_1_writes args s ++ Jvm.arrayLocs frame_1_arrays args s ++ Jvm.staticLocs frame_1_statics s) 24 192 → Post tb e args s (.returned v) u) :
    ArmFor flags0 classFile x code maxLocals ret World_1 tables_1 room_1 Calls_1 rest_1 Pre_1 Post := by
  intro l hfl _ _ p e ha hc hk s m args below hf hA hF happ hP
  obtain ⟨hcalls, hrest, hpre⟩ := hP
  obtain ⟨-, -, -, hnamed, -, -, -, hat⟩ := (Spec.applies_iff hf).mp happ
  obtain ⟨hg, hn⟩ := and_e (Cond.before_iff.mp (show (Jvm.Cond.and given_1 narrow_1).before args s = true from hpre))
  obtain ⟨hn1, hg⟩ := and_e hg
  obtain ⟨w0, w1, w2, w3, w4, w5, rfl⟩ : ∃ w0 w1 w2 w3 w4 w5 : Value, args = #[w0, w1, w2, w3, w4, w5] := by
    have hs : args.size = 6 := by simpa [Cond.value, given_1] using hn1
    obtain ⟨L⟩ := args
    match L, hs with
    | [w0, w1, w2, w3, w4, w5], _ => exact ⟨w0, w1, w2, w3, w4, w5, rfl⟩
  have hw := fun d (hd : d ∈ tables_1) => atoms_spec (ws := Jvm.Cond.code x code maxLocals ret :: tables_1) hat d (List.mem_cons_of_mem _ hd)
  obtain ⟨hg0, hg⟩ := and_e hg
  obtain ⟨i0, e0⟩ := is_v hg0
  obtain rfl : w0 = (.int i0) := Option.some.inj e0
  obtain ⟨hg1, hg⟩ := and_e hg
  obtain ⟨i1, e1⟩ := is_v hg1
  obtain rfl : w1 = (.int i1) := Option.some.inj e1
  obtain ⟨hg2, hg⟩ := and_e hg
  obtain ⟨i2, e2⟩ := is_v hg2
  obtain rfl : w2 = (.int i2) := Option.some.inj e2
  obtain ⟨hg3, hg⟩ := and_e hg
  obtain ⟨i3, e3⟩ := is_v hg3
  obtain rfl : w3 = (.int i3) := Option.some.inj e3
  obtain ⟨hg4, hg⟩ := and_e hg
  obtain ⟨i4, e4⟩ := is_v hg4
  obtain rfl : w4 = (.int i4) := Option.some.inj e4
  obtain ⟨i5, e5⟩ := is_v hg
  obtain rfl : w5 = (.int i5) := Option.some.inj e5

  obtain ⟨n, o, h1, h2, h3, _, L, rfl, ⟨N, -, -, rfl⟩, hq⟩ := rm_0 l s _ hw tables_1 i0 i1 i2 i3 i4 i5 s.heap  p e ha hc hk s m _ below hf ((Spec.applies_iff_loose hf).mp happ).1 ⟨rfl, State.Warmed39.refl s, rfl⟩ trivial
  refine ⟨n, _, h1, h2, h3, hpost _ _ _ _ _ _ ⟨Cond.after_iff.mpr rfl, Cond.after_iff.mpr (eq_i res_at (Term.int_eval (1)) rfl), trivial⟩ ⟨hq.1, hq.2.1, (hq.2.2.sift fun y hy => Or.inr ((N y hy).elim (fun z => nomatch z) id)).mono (by decide) (by decide)⟩⟩
theorem main_1_1 : Claimed_1_1 := comes_1 fun _ _ _ _ _ _ h hF => ⟨h.1, hF⟩
theorem main_1_2 : Claimed_1_2 := comes_1 fun _ _ _ _ _ _ h hF => ⟨h.2.1, hF⟩
end Jvm.Pilot.@@N@@
namespace Jvm.Pilot.@@N@@
open Jvm Jvm.ClassFile Sem Op Lib Jvm.Free Jvm.Stand Jvm.Pilot.@@N@@.Jvm.D
/-! MADE BY PROGRAM (witnessworld.py) out of the Statement's table words and the real class files: 11 classes; the members and pool entries that the words name. The judged class is class 1, her method 1. -/
namespace start1
open Jvm.ClassFile
def u (s : String) : CpInfo := .utf8 (stringToUtf16 s)
/-- a pool by its gaps: so many unusable entries, then the entry; so many at the end -/
def gap : Nat → List CpInfo → List CpInfo
  | 0, r => r
  | n + 1, r => .unusable :: gap n r
def poolList (es : List (Nat × CpInfo)) (last : Nat) : List CpInfo := es.foldr (fun e r => gap e.1 (e.2 :: r)) (gap last [])
def pool (es : List (Nat × CpInfo)) (last : Nat) : Array CpInfo := ⟨poolList es last⟩
def fileOf (pool : Array CpInfo) (this : Nat) (attrs : Array Attribute := #[]) (ms : Array MethodInfo := #[]) (fl : Nat := 33) (sup : Nat := 0) (ifs : Array Nat := #[]) (fds : Array FieldInfo := #[]) : ClassFile where
  minorVersion := 0
  majorVersion := 65
  constantPool := pool
  accessFlags := fl
  thisClass := this
  superClass := sup
  interfaces := ifs
  fields := fds
  methods := ms
  attributes := attrs
def plain (name : String) (sup : Option ClassId) : Class where
  name := name
  kind := .ordinary
  loader := none
  accessFlags := 33
  super := sup
  interfaces := #[]
  cf := none
  fields := #[]
  methods := #[]
  instanceTypes := #[]
  staticTypes := #[]
  resolved := #[]
  callSites := []
  init := .initialized
  statics := none
  mirror := none

def pool0 : Array CpInfo := pool [(5, u "<init>"), (0, u "()V"), (1, .class_ 10), (1, u "java/lang/Object")] 113

def k0c0 : Code := { maxStack := 0, maxLocals := 1, code := object_method_1_code, exceptionTable := #[], attributes := #[] }
def k0m0 : Method := { name := "<init>", desc := "()V", sig := { parameters := [], returnType := none }, accessFlags := 1, code := some k0c0 }
/-- java/lang/Object -/
def k0 : Class := { plain "java/lang/Object" none with
  accessFlags := 33
  interfaces := #[]
  cf := some (fileOf pool0 8 #[] #[{ accessFlags := 1, nameIndex := 5, descriptorIndex := 6, attributes := #[] }] 33 0 #[] #[])
  fields := #[]
  methods := #[k0m0]
  instanceTypes := #[]
  staticTypes := #[]
  resolved := Array.replicate 124 none
  statics := none }

def pool1 : Array CpInfo := pool [(2, .class_ 4), (1, u "java/lang/Object"), (0, u "<init>"), (0, u "()V"), (0, .integer 2147483647), (0, .class_ 9), (0, u "com/example/bidwright/bidwright/game/ClientOptions$RouteList"), (0, .methodref 8 11), (0, .nameAndType 5 12), (0, u "([I[I[I[I)V"), (0, .methodref 8 14), (0, .nameAndType 15 16), (0, u "putUtilities"), (0, u "(II[I[I)I"), (0, .methodref 18 19), (0, .class_ 20), (0, .nameAndType 21 22), (0, u "java/lang/Math"), (0, u "max"), (0, u "(II)I"), (0, .class_ 24), (0, u "com/example/bidwright/bidwright/game/RouteListPutUtilitiesPinLaw"), (2, u "law"), (0, u "(IIIIII)Z")] 9

def k1m0 : Method := { name := "<init>", desc := "()V", sig := { parameters := [], returnType := none }, accessFlags := 2, code := none }
def k1c1 : Code := { maxStack := 6, maxLocals := 25, code := code, exceptionTable := #[], attributes := #[] }
def k1m1 : Method := { name := "law", desc := "(IIIIII)Z", sig := { parameters := [.int, .int, .int, .int, .int, .int], returnType := some .boolean }, accessFlags := 9, code := some k1c1 }
/-- com/example/bidwright/bidwright/game/RouteListPutUtilitiesPinLaw -/
def k1 : Class := { plain "com/example/bidwright/bidwright/game/RouteListPutUtilitiesPinLaw" (some 0) with
  accessFlags := 49
  interfaces := #[]
  cf := some (fileOf pool1 23 #[] #[{ accessFlags := 2, nameIndex := 5, descriptorIndex := 6, attributes := #[] }, { accessFlags := 9, nameIndex := 27, descriptorIndex := 28, attributes := #[] }] 49 2 #[] #[])
  fields := #[]
  methods := #[k1m0, k1m1]
  instanceTypes := #[]
  staticTypes := #[]
  resolved := Array.replicate 38 none
  statics := none }

def pool2 : Array CpInfo := pool [(1, .methodref 2 3), (0, .class_ 4), (0, .nameAndType 5 6), (0, u "java/lang/Object"), (0, u "<init>"), (0, u "()V"), (0, .class_ 8), (0, u "java/lang/Record")] 13

def k2c0 : Code := { maxStack := 1, maxLocals := 1, code := jdk_30_method_1_code, exceptionTable := #[], attributes := #[] }
def k2m0 : Method := { name := "<init>", desc := "()V", sig := { parameters := [], returnType := none }, accessFlags := 4, code := some k2c0 }
/-- java/lang/Record -/
def k2 : Class := { plain "java/lang/Record" (some 0) with
  accessFlags := 1057
  interfaces := #[]
  cf := some (fileOf pool2 7 #[] #[{ accessFlags := 4, nameIndex := 5, descriptorIndex := 6, attributes := #[] }] 1057 2 #[] #[])
  fields := #[]
  methods := #[k2m0]
  instanceTypes := #[]
  staticTypes := #[]
  resolved := Array.replicate 22 none
  statics := none }

def pool3 : Array CpInfo := pool [(1, .methodref 2 3), (0, .class_ 4), (0, .nameAndType 5 6), (0, u "java/lang/Record"), (0, u "<init>"), (0, u "()V"), (0, .fieldref 8 9), (0, .class_ 10), (0, .nameAndType 11 12), (0, u "com/example/bidwright/bidwright/game/ClientOptions$RouteList"), (0, u "routes"), (0, u "[I"), (0, .fieldref 8 14), (0, .nameAndType 15 12), (0, u "stayStarts"), (0, .fieldref 8 17), (0, .nameAndType 18 12), (0, u "extended"), (0, .fieldref 8 20), (0, .nameAndType 21 12), (0, u "added"), (14, u "([I[I[I[I)V"), (3, u "putUtilities"), (0, u "(II[I[I)I"), (9, .class_ 52), (0, u "com/example/bidwright/bidwright/game/ClientOptions")] 22

def k3c0 : Code := { maxStack := 2, maxLocals := 5, code := prog_40_method_1_code, exceptionTable := #[], attributes := #[] }
def k3m0 : Method := { name := "<init>", desc := "([I[I[I[I)V", sig := { parameters := [(.array .int), (.array .int), (.array .int), (.array .int)], returnType := none }, accessFlags := 0, code := some k3c0 }
def k3c1 : Code := { maxStack := 7, maxLocals := 7, code := prog_40_method_2_code, exceptionTable := #[], attributes := #[] }
def k3m1 : Method := { name := "putUtilities", desc := "(II[I[I)I", sig := { parameters := [.int, .int, (.array .int), (.array .int)], returnType := some .int }, accessFlags := 0, code := some k3c1 }
/-- com/example/bidwright/bidwright/game/ClientOptions$RouteList -/
def k3 : Class := { plain "com/example/bidwright/bidwright/game/ClientOptions$RouteList" (some 2) with
  accessFlags := 48
  interfaces := #[]
  cf := some (fileOf pool3 8 #[.nestHost 51] #[{ accessFlags := 0, nameIndex := 5, descriptorIndex := 36, attributes := #[] }, { accessFlags := 0, nameIndex := 40, descriptorIndex := 41, attributes := #[] }] 48 2 #[] #[{ accessFlags := 18, nameIndex := 11, descriptorIndex := 12, attributes := #[] }, { accessFlags := 18, nameIndex := 15, descriptorIndex := 12, attributes := #[] }, { accessFlags := 18, nameIndex := 18, descriptorIndex := 12, attributes := #[] }, { accessFlags := 18, nameIndex := 21, descriptorIndex := 12, attributes := #[] }])
  fields := #[{ name := "routes", type := (.array .int), accessFlags := 18, slot := 0, constantValue := 0 }, { name := "stayStarts", type := (.array .int), accessFlags := 18, slot := 1, constantValue := 0 }, { name := "extended", type := (.array .int), accessFlags := 18, slot := 2, constantValue := 0 }, { name := "added", type := (.array .int), accessFlags := 18, slot := 3, constantValue := 0 }]
  methods := #[k3m0, k3m1]
  instanceTypes := #[(.array .int), (.array .int), (.array .int), (.array .int)]
  staticTypes := #[]
  resolved := Array.replicate 75 none
  statics := none }

def pool4 : Array CpInfo := pool [(1, .class_ 2), (0, u "java/lang/Math"), (1, .class_ 6), (1, u "java/lang/Object"), (0, u "<init>"), (0, u "()V"), (89, .class_ 100), (1, u "java/lang/Math$RandomNumberGeneratorHolder"), (71, u "negativeZeroFloatBits"), (0, u "J"), (2, u "negativeZeroDoubleBits"), (21, u "max"), (46, u "$assertionsDisabled"), (0, u "Z"), (88, u "(II)I"), (2, u "twoToTheDoubleScaleDown"), (0, u "D"), (4, u "twoToTheDoubleScaleUp"), (9, u "E"), (3, u "PI"), (2, u "TAU"), (2, u "DEGREES_TO_RADIANS"), (0, u "RADIANS_TO_DEGREES")] 94

def k4m0 : Method := { name := "<init>", desc := "()V", sig := { parameters := [], returnType := none }, accessFlags := 2, code := none }
def k4c1 : Code := { maxStack := 2, maxLocals := 2, code := jdk_29_method_65_code, exceptionTable := #[], attributes := #[] }
def k4m1 : Method := { name := "max", desc := "(II)I", sig := { parameters := [.int, .int], returnType := some .int }, accessFlags := 9, code := some k4c1 }
/-- java/lang/Math -/
def k4 : Class := { plain "java/lang/Math" (some 0) with
  accessFlags := 49
  interfaces := #[]
  cf := some (fileOf pool4 1 #[.nestMembers #[98]] #[{ accessFlags := 2, nameIndex := 7, descriptorIndex := 8, attributes := #[] }, { accessFlags := 9, nameIndex := 198, descriptorIndex := 335, attributes := #[] }] 49 4 #[] #[{ accessFlags := 25, nameIndex := 354, descriptorIndex := 339, attributes := #[] }, { accessFlags := 25, nameIndex := 358, descriptorIndex := 339, attributes := #[] }, { accessFlags := 25, nameIndex := 361, descriptorIndex := 339, attributes := #[] }, { accessFlags := 26, nameIndex := 364, descriptorIndex := 339, attributes := #[] }, { accessFlags := 26, nameIndex := 365, descriptorIndex := 339, attributes := #[] }, { accessFlags := 26, nameIndex := 172, descriptorIndex := 173, attributes := #[] }, { accessFlags := 26, nameIndex := 176, descriptorIndex := 173, attributes := #[] }, { accessFlags := 8, nameIndex := 344, descriptorIndex := 339, attributes := #[] }, { accessFlags := 8, nameIndex := 338, descriptorIndex := 339, attributes := #[] }, { accessFlags := 4120, nameIndex := 245, descriptorIndex := 246, attributes := #[] }])
  fields := #[{ name := "E", type := .double, accessFlags := 25, slot := 0, constantValue := 0 }, { name := "PI", type := .double, accessFlags := 25, slot := 1, constantValue := 0 }, { name := "TAU", type := .double, accessFlags := 25, slot := 2, constantValue := 0 }, { name := "DEGREES_TO_RADIANS", type := .double, accessFlags := 26, slot := 3, constantValue := 0 }, { name := "RADIANS_TO_DEGREES", type := .double, accessFlags := 26, slot := 4, constantValue := 0 }, { name := "negativeZeroFloatBits", type := .long, accessFlags := 26, slot := 5, constantValue := 0 }, { name := "negativeZeroDoubleBits", type := .long, accessFlags := 26, slot := 6, constantValue := 0 }, { name := "twoToTheDoubleScaleUp", type := .double, accessFlags := 8, slot := 7, constantValue := 0 }, { name := "twoToTheDoubleScaleDown", type := .double, accessFlags := 8, slot := 8, constantValue := 0 }, { name := "$assertionsDisabled", type := .boolean, accessFlags := 4120, slot := 9, constantValue := 0 }]
  methods := #[k4m0, k4m1]
  instanceTypes := #[]
  staticTypes := #[.double, .double, .double, .double, .double, .long, .long, .double, .double, .boolean]
  resolved := Array.replicate 460 none
  statics := none }

def pool5 : Array CpInfo := pool [(1, u "java/lang/Cloneable"), (0, .class_ 1), (0, u "java/lang/Object"), (0, .class_ 3)] 3

/-- java/lang/Cloneable -/
def k5 : Class := { plain "java/lang/Cloneable" (some 0) with
  accessFlags := 1537
  interfaces := #[]
  cf := some (fileOf pool5 2 #[] #[] 1537 4 #[] #[])
  fields := #[]
  methods := #[]
  instanceTypes := #[]
  staticTypes := #[]
  resolved := Array.replicate 8 none
  statics := none }

def pool6 : Array CpInfo := pool [(1, u "java/io/Serializable"), (0, .class_ 1), (0, u "java/lang/Object"), (0, .class_ 3)] 3

/-- java/io/Serializable -/
def k6 : Class := { plain "java/io/Serializable" (some 0) with
  accessFlags := 1537
  interfaces := #[]
  cf := some (fileOf pool6 2 #[] #[] 1537 4 #[] #[])
  fields := #[]
  methods := #[]
  instanceTypes := #[]
  staticTypes := #[]
  resolved := Array.replicate 8 none
  statics := none }

/-- the primitive byte -/
def k7 : Class := { plain "byte" none with kind := .primitive 'B', accessFlags := 0x411 }
/-- [B -/
def k8 : Class := { plain "[B" (some 0) with kind := .array 7 .byte, interfaces := #[5, 6], accessFlags := 1041 }

/-- the primitive int -/
def k9 : Class := { plain "int" none with kind := .primitive 'I', accessFlags := 0x411 }
/-- [I -/
def k10 : Class := { plain "[I" (some 0) with kind := .array 9 .int, interfaces := #[5, 6], accessFlags := 1041 }

def heap : Heap := #[]
def classes : Array Class := #[k0, k1, k2, k3, k4, k5, k6, k7, k8, k9, k10]
def interned : List (Array UInt16 × Addr) := []
def slotsUsed : Nat := 0
def theMethod : MethodId := ⟨1, 1⟩
def args0 : Array Value := #[.int 5, .int 5, .int 5, .int 5, .int 5, .int 5]
def aboutOver (below : List Frame) : State where
  vm := { classes := classes, interned := interned.toArray }
  heap := heap
  slotsUsed := slotsUsed
  threads := #[{ frames := .invoking theMethod args0 :: below }]
def below0 : List Frame := [.native { method := ⟨0, 0⟩, args := #[] }]
def about1 : State := aboutOver below0
def p0 : Program := .bare "" "" ""
def e0 : Env := launch0.env 0 0 0
theorem w_frames : about1.frames = Frame.invoking theMethod args0 :: below0 := rfl
set_option maxRecDepth 65536 in
theorem w_args : argsFit about1.vm theMethod args0 = true := by decide +kernel
set_option maxRecDepth 65536 in
theorem w_heap : heapFits about1 = true := by decide +kernel
set_option maxRecDepth 65536 in
theorem w_runnable : about1.curStatus? = some .runnable := by decide +kernel
set_option maxRecDepth 65536 in
theorem w_alone : about1.alone = true := by decide +kernel
set_option maxRecDepth 65536 in
theorem w_named : about1.methodNamed? x = some theMethod := by decide +kernel
set_option maxRecDepth 65536 in
theorem w_hears : about1.hears theMethod below0 = true := by decide +kernel
set_option maxRecDepth 65536 in
theorem w_ripe : about1.ripe theMethod args0 below0 = true := by decide +kernel
theorem w_running : about1.status = .running := rfl
set_option maxRecDepth 65536 in
theorem w_room : about1.hasRoom e0.platform room_1 = true :=
  launch0.hasRoom_least _ room_1 (by decide +kernel) (by decide +kernel) (by decide +kernel) (by decide +kernel) (by decide +kernel) (by decide +kernel)
theorem allAtoms_all (ts : List Jvm.Cond) (a : Array Jvm.Value) (st : Jvm.State) : (allAtoms ts).before a st = ts.all (fun c => c.before a st) := by
  induction ts with
  | nil => rfl
  | cons c t ih =>
    show (Jvm.Cond.and c (allAtoms t)).before a st = _
    rw [Jvm.Cond.before_and, ih, List.all_cons]
def words1 : List Jvm.Cond := Jvm.Cond.code x code maxLocals ret :: tables_1
/-- a 'code' word, met by the world's own term for the bytes: nothing is compared byte by byte -/
theorem code_word {y : MethodName} {bytes : ByteArray} {mx : Nat} {rt : Option FieldType} {a : Array Value} {s : State} {m : MethodId} {meth : Method} {c : Code} (h1 : s.methodNamed? y = some m) (h2 : s.vm.method? m = some meth) (h3 : meth.code = some c) (h4 : c.code = bytes)
    (h5 : (c.maxLocals == mx && c.exceptionTable.isEmpty && decide (c.maxStack ≤ mostOperands) && decide (meth.sig.returnType = rt) && !meth.locks && decide (parseMethodDescriptor y.desc = some meth.sig)) = true) : (Jvm.Cond.code y bytes mx rt).before a s = true := by
  simp only [Bool.and_eq_true, beq_iff_eq, Bool.not_eq_true', decide_eq_true_eq] at h5
  obtain ⟨⟨⟨⟨⟨g1, g2⟩, g3⟩, g4⟩, g5⟩, g6⟩ := h5
  simp [Cond.before, Cond.holds, Cond.value, h1, h2, h3, h4, g1, g2, g3, g4, g5, g6]
def isCode : Jvm.Cond → Bool
  | .code _ _ _ _ => true
  | _ => false
theorem all_split {L : List Jvm.Cond} {P : Jvm.Cond → Bool} (h1 : L.all (fun c => isCode c || P c) = true) (h2 : ∀ c ∈ L.filter isCode, P c = true) : L.all P = true := by
  refine List.all_eq_true.mpr fun c hc => ?_
  have h := List.all_eq_true.mp h1 c hc
  rcases Bool.eq_false_or_eq_true (isCode c) with hi | hi
  · exact h2 c (List.mem_filter.mpr ⟨hc, hi⟩)
  · simpa [hi] using h
set_option maxRecDepth 65536 in
theorem w_c0 : (Jvm.Cond.code x code maxLocals ret).before args0 about1 = true := code_word (m := ⟨1, 1⟩) (meth := k1m1) (c := k1c1) (by decide +kernel) rfl rfl rfl (by decide +kernel)
set_option maxRecDepth 65536 in
theorem w_c1 : (Jvm.Cond.code ({ cls := "com/example/bidwright/bidwright/game/ClientOptions$RouteList", name := "<init>", desc := "([I[I[I[I)V" } : Jvm.MethodName) prog_40_method_1_code (5 : Nat) (Option.none : Option Jvm.ClassFile.FieldType)).before args0 about1 = true := code_word (m := ⟨3, 0⟩) (meth := k3m0) (c := k3c0) (by decide +kernel) rfl rfl rfl (by decide +kernel)
set_option maxRecDepth 65536 in
theorem w_c2 : (Jvm.Cond.code ({ cls := "java/lang/Record", name := "<init>", desc := "()V" } : Jvm.MethodName) jdk_30_method_1_code (1 : Nat) (Option.none : Option Jvm.ClassFile.FieldType)).before args0 about1 = true := code_word (m := ⟨2, 0⟩) (meth := k2m0) (c := k2c0) (by decide +kernel) rfl rfl rfl (by decide +kernel)
set_option maxRecDepth 65536 in
theorem w_c3 : (Jvm.Cond.code ({ cls := "java/lang/Object", name := "<init>", desc := "()V" } : Jvm.MethodName) object_method_1_code (1 : Nat) (Option.none : Option Jvm.ClassFile.FieldType)).before args0 about1 = true := code_word (m := ⟨0, 0⟩) (meth := k0m0) (c := k0c0) (by decide +kernel) rfl rfl rfl (by decide +kernel)
set_option maxRecDepth 65536 in
theorem w_c4 : (Jvm.Cond.code ({ cls := "com/example/bidwright/bidwright/game/ClientOptions$RouteList", name := "putUtilities", desc := "(II[I[I)I" } : Jvm.MethodName) prog_40_method_2_code (7 : Nat) (Option.some Jvm.ClassFile.FieldType.int)).before args0 about1 = true := code_word (m := ⟨3, 1⟩) (meth := k3m1) (c := k3c1) (by decide +kernel) rfl rfl rfl (by decide +kernel)
set_option maxRecDepth 65536 in
theorem w_c5 : (Jvm.Cond.code ({ cls := "java/lang/Math", name := "max", desc := "(II)I" } : Jvm.MethodName) jdk_29_method_65_code (2 : Nat) (Option.some Jvm.ClassFile.FieldType.int)).before args0 about1 = true := code_word (m := ⟨4, 1⟩) (meth := k4m1) (c := k4c1) (by decide +kernel) rfl rfl rfl (by decide +kernel)
def codes1 : List Jvm.Cond := [Jvm.Cond.code x code maxLocals ret, Jvm.Cond.code ({ cls := "com/example/bidwright/bidwright/game/ClientOptions$RouteList", name := "<init>", desc := "([I[I[I[I)V" } : Jvm.MethodName) prog_40_method_1_code (5 : Nat) (Option.none : Option Jvm.ClassFile.FieldType), Jvm.Cond.code ({ cls := "java/lang/Record", name := "<init>", desc := "()V" } : Jvm.MethodName) jdk_30_method_1_code (1 : Nat) (Option.none : Option Jvm.ClassFile.FieldType), Jvm.Cond.code ({ cls := "java/lang/Object", name := "<init>", desc := "()V" } : Jvm.MethodName) object_method_1_code (1 : Nat) (Option.none : Option Jvm.ClassFile.FieldType), Jvm.Cond.code ({ cls := "com/example/bidwright/bidwright/game/ClientOptions$RouteList", name := "putUtilities", desc := "(II[I[I)I" } : Jvm.MethodName) prog_40_method_2_code (7 : Nat) (Option.some Jvm.ClassFile.FieldType.int), Jvm.Cond.code ({ cls := "java/lang/Math", name := "max", desc := "(II)I" } : Jvm.MethodName) jdk_29_method_65_code (2 : Nat) (Option.some Jvm.ClassFile.FieldType.int)]
set_option maxRecDepth 65536 in
theorem codes_eq : words1.filter isCode = codes1 := rfl
theorem w_codes : ∀ c ∈ words1.filter isCode, c.before args0 about1 = true := by
  rw [codes_eq]
  intro c hc
  simp only [codes1, List.mem_cons, List.not_mem_nil, or_false] at hc
  rcases hc with rfl | rfl | rfl | rfl | rfl | rfl
  · exact w_c0
  · exact w_c1
  · exact w_c2
  · exact w_c3
  · exact w_c4
  · exact w_c5
set_option maxRecDepth 65536 in
theorem w_t1 : (words1.take 24).all (fun c => isCode c || c.before args0 about1) = true := by decide +kernel
set_option maxRecDepth 65536 in
theorem w_t2 : (words1.drop 24).all (fun c => isCode c || c.before args0 about1) = true := by decide +kernel
theorem w_tables : (allAtoms (Jvm.Cond.code x code maxLocals ret :: tables_1)).before args0 about1 = true := by
  rw [allAtoms_all]
  show words1.all (fun c => c.before args0 about1) = true
  refine all_split ?_ w_codes
  rw [← List.take_append_drop 24 words1, List.all_append, w_t1, w_t2]
  rfl
set_option maxRecDepth 65536 in
theorem w_case : (Jvm.Cond.and given_1 narrow_1).before args0 about1 = true := by decide +kernel
theorem w_applies : (headSpec (Jvm.Cond.code x code maxLocals ret :: tables_1) room_1).applies x e0.platform about1 = true :=
  (Spec.applies_iff w_frames).mpr ⟨w_running, w_runnable, w_alone, w_named, w_hears, w_ripe, w_room, w_tables⟩
theorem atStart : AtStart classFile x code maxLocals ret World_1 tables_1 room_1 Calls_1 rest_1 Pre_1 launch0 p0 e0 about1 theMethod args0 below0 :=
  ⟨lists_1, trivial, launch0.admits_env _ _ _, launch0.least_env, fairChoices_fair.cas, fairChoices_fair.clock, w_frames, w_args, w_heap, w_applies, trivial, trivial, w_case⟩
end start1
theorem witness_1 : WitnessClaimed_1 := ⟨start1.p0, start1.e0, start1.about1, start1.theMethod, start1.args0, start1.below0, start1.atStart⟩
end Jvm.Pilot.@@N@@
